import JvmDerived
import JvmDerived.Pilot.@@N@@Statement
import JvmDerived.Pilot.@@N@@Code
set_option linter.unusedVariables false
set_option linter.unusedSimpArgs false
namespace Jvm.RoadKit
open Sem ClassFile Op Lib Jvm.Stand Jvm.Free Jvm.LawKit
section New
variable {p : Program} {l : Launch} {e : Env} {R : Room} {s : State} {m : MethodId} {args : Array Value} {below : List Frame} {meth : Method} {c : Code} {T : State} {locs : List Loc} {cells slots : Nat}
theorem retI (X : Stand p l e R s m args below meth c T locs cells slots) (hx : p.tables.exec = Jvm.exec) {pc : Nat} {Ls : Array Slot} {z : Int32} {rest : List Value} (hret : meth.sig.returnType = some .int) (hd : decode c.code pc = .ok (.ireturn, 1)) {fs : List Frame}
    (hl : ∀ (f : JFrame) (acts : List Action), f.method = m → f.locked = none → f.entered = [] → (doReturn e (T.setTop f) acts (some (.int z))).1 = T.setFrames fs) : Steps p.tables e below (T.setTop (mkF m pc Ls (.int z :: rest))) (T.setFrames fs) := by
  have hm' : T.vm.method? m = some meth := X.method'
  have hn : narrow .int (.int z) = .int z := rfl
  show Steps p.tables e below (T.setTop { method := m, pc := pc, locals := Ls, stack := _ :: rest, locked := none }) _
  jvm_step X.here [X.here.top, hx, hd, hm', hret, hn]
  first | (intro acts; rw [hl _ acts rfl rfl rfl]) | rw [hl _ _ rfl rfl rfl]
  exact Steps.refl _
theorem own_retA (X : Stand p l e R s m args below meth c T locs cells slots) (hx : p.tables.exec = Jvm.exec) {pc : Nat} {Ls : Array Slot} {z : Value} {ty : FieldType} {rest : List Value} (hret : meth.sig.returnType = some ty) (hty : ty.isReference = true) (hz : z.isRef = true) (hd : decode c.code pc = .ok (.areturn, 1)) {fs : List Frame}
    (hl : ∀ (f : JFrame) (acts : List Action), f.method = m → f.locked = none → f.entered = [] → (doReturn e (T.setTop f) acts (some z)).1 = T.setFrames fs) : Steps p.tables e below (T.setTop (mkF m pc Ls (z :: rest))) (T.setFrames fs) := by
  have hm' : T.vm.method? m = some meth := X.method'
  show Steps p.tables e below (T.setTop { method := m, pc := pc, locals := Ls, stack := _ :: rest, locked := none }) _
  jvm_step X.here [X.here.top, hx, hd, hm', hret, hty, hz]
  first | (intro acts; rw [hl _ acts rfl rfl rfl]) | rw [hl _ _ rfl rfl rfl]
  exact Steps.refl _
theorem own_retD (X : Stand p l e R s m args below meth c T locs cells slots) (hx : p.tables.exec = Jvm.exec) {pc : Nat} {Ls : Array Slot} {z : UInt64} {rest : List Value} (hret : meth.sig.returnType = some .double) (hd : decode c.code pc = .ok (.dreturn, 1)) {fs : List Frame}
    (hl : ∀ (f : JFrame) (acts : List Action), f.method = m → f.locked = none → f.entered = [] → (doReturn e (T.setTop f) acts (some (.double z))).1 = T.setFrames fs) : Steps p.tables e below (T.setTop (mkF m pc Ls (.double z :: rest))) (T.setFrames fs) :=
  retOut X hx hret rfl (Or.inr (Or.inr (Or.inl ⟨rfl, rfl, z, rfl⟩))) hd hl
/-- where a body is to end: it runs, it has ended, it returned v, Q says what v and the heap are -/
def own_F (s : State) (below : List Frame) (Q : Option Value → Heap → List Loc → Prop) (C S : Nat) (t : State) (o : Outcome) : Prop := t.status = .running ∧ Ended t below o ∧ ∃ v L, o = .returned v ∧ Q v t.heap L ∧ FrameEnd s o t L C S
/-- the run from T, with the frame g on top, comes to such an end -/
def own_Go (p : Program) (e : Env) (below : List Frame) (F : State → Outcome → Prop) (T : State) (g : JFrame) : Prop := ∃ t o, Steps p.tables e below (T.setTop g) t ∧ F t o
theorem own_st {F : State → Outcome → Prop} {T T' : State} {g g' : JFrame} (h : ∀ t, Steps p.tables e below (T'.setTop g') t → Steps p.tables e below (T.setTop g) t) (k : own_Go p e below F T' g') : own_Go p e below F T g := by
  obtain ⟨t, o, h1, h2⟩ := k
  exact ⟨t, o, h t h1, h2⟩
theorem own_cast {F : State → Outcome → Prop} {T : State} {g g' : JFrame} (q : g = g') (k : own_Go p e below F T g') : own_Go p e below F T g := q ▸ k
theorem own_ret {F : State → Outcome → Prop} {Q : Option Value → Heap → List Loc → Prop} {C S : Nat} {g : JFrame} {v : Option Value} (hF : F = own_F s below Q C S) (X : Stand p l e R s m args below meth c T locs cells slots) (hv : meth.sig.returnType = none → v = none) (hlk : meth.locks = false)
    (hst : ∀ fs, (∀ (f : JFrame) (acts : List Action), f.method = m → f.locked = none → f.entered = [] → (doReturn e (T.setTop f) acts v).1 = T.setFrames fs) → Steps p.tables e below (T.setTop g) (T.setFrames fs)) (hQ : Q v T.heap locs) (hc : cells ≤ C) (hs : slots ≤ S) : own_Go p e below F T g := by
  subst hF
  obtain ⟨fs, hr, hrun, hended, hW, hsame⟩ := X.leave hv hlk
  exact ⟨T.setFrames fs, .returned v, hst fs hr, hrun, hended, v, locs, rfl, hQ, ⟨_, rfl⟩, hW, hsame.mono hc hs⟩
theorem own_some {ret : Option FieldType} {ty : FieldType} {v : Option Value} (hret : ret = some ty) : ret = none → v = none := fun h => by rw [hret] at h; cases h
/-- a body's contract: called with 'as' at the heap h0 it returns, and Q holds of what it returned, of the heap, of the places written -/
abbrev own_Met (l : Launch) (Z : State) (y : MethodName) (bytes : ByteArray) (maxL : Nat) (ret : Option FieldType) (rm : Room) (as : Array Value) (h0 : Heap) (Q : Option Value → Heap → List Loc → Prop) : Prop :=
  ∀ ws : List Jvm.Cond, MetFree l y (head1 (Jvm.Cond.code y bytes maxL ret :: ws) rm) (fun a U => a = as ∧ Z.Warmed39 U.vm ∧ U.heap = h0) (fun _ _ _ _ _ => True) (fun _ U o U' => ∃ v L, o = .returned v ∧ Q v U'.heap L ∧ FrameEnd U o U' L rm.cells rm.slots)
theorem own_body {Z : State} {y : MethodName} {bytes : ByteArray} {maxL : Nat} {ret : Option FieldType} {rm : Room} {as : Array Value} {h0 : Heap} {Q : Option Value → Heap → List Loc → Prop} (hpl : plainFor y = true)
    (body : ∀ (p : Program) (e : Env) (s : State) (m : MethodId) (below : List Frame) (meth : Method) (c : Code) (T : State), Z.Warmed39 s.vm → p.tables.exec = Jvm.exec → c.code = bytes → c.maxLocals = maxL → s.vm.findClass y.cls = some m.cls → meth.name = y.name → meth.sig.returnType = ret → meth.locks = false →
      Stand p l e rm s m as below meth c T [] 0 0 → T.heap = h0 → ∀ F : State → Outcome → Prop, F = own_F s below Q rm.cells rm.slots → own_Go p e below F T (entryFrame m as maxL)) : own_Met l Z y bytes maxL ret rm as h0 Q := by
  intro ws
  refine MetFree.of_bodySF hpl hisR ?_
  intro p e s m args below meth c s₁ Bd hml0 hP hK
  obtain ⟨rfl, hZ, hh⟩ := hP
  obtain ⟨t, o, h1, h2, h3, h4⟩ := body p e s m below meth c s₁ hZ Bd.exec Bd.bytes hml0 (findClass_of_methodNamed Bd.named) (name_of_methodNamed Bd.named Bd.method).1 Bd.returns (BodyLoose.notSynchronized Bd) (Stand.of_body Bd) (by rw [← hh, Bd.state]; rfl) _ rfl
  exact ⟨t, o, h1, h2, h3, h4⟩
theorem own_back {Z : State} {a0 : Array Value} {y : MethodName} {bytes : ByteArray} {maxL : Nat} {ret : Option FieldType} {rm : Room} {len W : Nat} {as' : Array Value} {h : Heap} {Q : Option Value → Heap → List Loc → Prop} (hM : own_Met l Z y bytes maxL ret rm as' h Q)
    (hZ : Z.Warmed39 s.vm) (wc : (Cond.code y bytes maxL ret).before a0 Z = true) (wz : (Cond.initialized y.cls).before a0 Z = true) (hf : rm.frames + 1 ≤ R.frames) (hl : W + (maxL + 11) + rm.locals ≤ R.locals) :
    Back l R p e below s args y len W (fun A a => a = as' ∧ A.U.heap = h ∧ A.cells + rm.cells ≤ R.cells ∧ A.slots + rm.slots ≤ R.slots)
      (fun A _ v B => ∃ L, Q v B.U.heap L ∧ B.locs = A.locs ++ L ∧ B.cells = A.cells + rm.cells ∧ B.slots = A.slots + rm.slots) := backOf (Q := Q) (rm := rm) (hM []) hZ wc wz hf hl
theorem own_selP {Z : State} {a0 : Array Value} {y : MethodName} {n : Nat} (hZ : Z.Warmed39 s.vm) (wi : (Cond.instantiable y.cls n).before a0 Z = true) (hpriv : s.PrivateAt y) (hinst : (Cond.instanceMethod y).before args s = true) (hy : y.cls ≠ "java/lang/invoke/MethodHandle" ∧ y.cls ≠ "java/lang/invoke/VarHandle") : (Cond.selects y.cls y y).before args s = true := by
  obtain ⟨c, k, h1, h2, h3, h4, -, -⟩ := Cond.instantiable_spec (mvT (args := args) hZ wi)
  exact selects_self_of_private h1 h2 (by cases hi : k.isInterface <;> simp [hi] at h4 ⊢) hpriv hinst hy
theorem own_fresh {Z : State} {h : Heap} {b : Addr} (g : b = h.size) {n : Nat} (q : n ≤ h.size) : n ≤ b := g ▸ q
theorem own_ne {h : Heap} {a b : Addr} (g : b = h.size) (q : a < h.size) : a ≠ b := Nat.ne_of_lt (g ▸ q)
end New
end Jvm.RoadKit
namespace Jvm.Pilot.@@N@@
open Jvm Jvm.ClassFile Sem Op Lib Jvm.Free Jvm.Stand Jvm.LawKit Jvm.RoadKit Bundle Jvm.Pilot.@@N@@.Jvm.D

def own_B (z : Int32) (P : Prop) : Prop := (z = 1 ∧ P) ∨ (z = 0 ∧ ¬ P)
theorem own_B.yes {z : Int32} {P : Prop} (h : own_B z P) (q : ¬ z = 0) : P := h.elim (fun r => r.2) (fun r => absurd r.1 q)
theorem own_B.no {z : Int32} {P : Prop} (h : own_B z P) (q : z = 0) : ¬ P := h.elim (fun r => absurd (r.1.symm.trans q) (by decide)) (fun r => r.2)
def own_w (x : Int32) : Prop := x = 32 ∨ x = 9 ∨ x = 13
def own_xs (b0 b1 b2 b3 : Int32) : Nat → Int32
  | 0 => b0
  | 1 => b1
  | 2 => b2
  | 3 => b3
  | _ => 0
theorem own_one (i : Nat) : Int32.ofNat i + (1 : Int32) = Int32.ofNat (i + 1) := (Int32.ofNat_add i 1).symm
theorem own_lt {i n : Nat} (h : i < n) (hn : n ≤ 9) : Int32.ofNat i < Int32.ofNat n := by
  rw [Int32.lt_iff_toInt_lt, Int32.toInt_ofNat_of_lt (by omega), Int32.toInt_ofNat_of_lt (by omega)]
  omega
theorem own_nlt {i n : Nat} (h : n ≤ i) (hn : i ≤ 9) : ¬ Int32.ofNat i < Int32.ofNat n := by
  rw [Int32.lt_iff_toInt_lt, Int32.toInt_ofNat_of_lt (by omega), Int32.toInt_ofNat_of_lt (by omega)]
  omega
theorem own_lt' {i n : Nat} (h : Int32.ofNat i < Int32.ofNat n) (hi : i ≤ 9) (hn : n ≤ 9) : i < n := by
  rw [Int32.lt_iff_toInt_lt, Int32.toInt_ofNat_of_lt (by omega), Int32.toInt_ofNat_of_lt (by omega)] at h
  omega
theorem own_nat {i : Nat} (h : i < 4) : (Int32.ofNat i).toNatClampNeg = i ∧ ¬ Int32.ofNat i < 0 ∧ Int32.ofNat i < (4 : Int32) := by
  match i, h with
  | 0, _ => decide
  | 1, _ => decide
  | 2, _ => decide
  | 3, _ => decide
/-- y is the first place from i on, inside f to t, that isn't blank; -1 where there is none -/
def own_PF (xs : Nat → Int32) (f t i : Nat) (y : Int32) : Prop :=
  (y = -1 ∧ ∀ j, i ≤ j → j < 4 → f ≤ j → j < t → own_w (xs j)) ∨
  (∃ c : Nat, y = Int32.ofNat c ∧ i ≤ c ∧ c < 4 ∧ f ≤ c ∧ c < t ∧ ¬ own_w (xs c) ∧ ∀ j, i ≤ j → j < c → f ≤ j → j < t → own_w (xs j))
theorem own_PF.none (xs : Nat → Int32) (f t : Nat) : own_PF xs f t 4 (-1) := Or.inl ⟨rfl, fun j h1 h2 => absurd h2 (by omega)⟩
theorem own_PF.skip {xs : Nat → Int32} {f t i : Nat} {y z ci : Int32} (h : own_PF xs f t (i + 1) y) (hf : f ≤ 4) (ht : t ≤ 4) (hi : i < 4) (hc : ci = Int32.ofNat i) (b : own_B z (¬ ci < Int32.ofNat f ∧ ci < Int32.ofNat t ∧ ¬ own_w (xs i))) (q : z = 0) : own_PF xs f t i y := by
  have nb := b.no q
  have key : f ≤ i → i < t → own_w (xs i) := fun h1 h2 => by
    refine Classical.byContradiction fun hn => nb ⟨?_, ?_, hn⟩
    · rw [hc]; exact own_nlt h1 (by omega)
    · rw [hc]; exact own_lt h2 (by omega)
  rcases h with ⟨e, a⟩ | ⟨c, e, h1, h2, h3, h4, h5, h6⟩
  · refine Or.inl ⟨e, fun j j1 j2 j3 j4 => ?_⟩
    rcases Nat.lt_or_ge i j with g | g
    · exact a j g j2 j3 j4
    · obtain rfl : j = i := by omega
      exact key j3 j4
  · refine Or.inr ⟨c, e, by omega, h2, h3, h4, h5, fun j j1 j2 j3 j4 => ?_⟩
    rcases Nat.lt_or_ge i j with g | g
    · exact h6 j g j2 j3 j4
    · obtain rfl : j = i := by omega
      exact key j3 j4
theorem own_PF.hit {xs : Nat → Int32} {f t i : Nat} {z ci : Int32} (hf : f ≤ 4) (ht : t ≤ 4) (hi : i < 4) (hc : ci = Int32.ofNat i) (b : own_B z (¬ ci < Int32.ofNat f ∧ ci < Int32.ofNat t ∧ ¬ own_w (xs i))) (q : ¬ z = 0) : own_PF xs f t i ci := by
  obtain ⟨h1, h2, h3⟩ := b.yes q
  rw [hc] at h1 h2
  have g1 : ¬ i < f := fun g => h1 (own_lt g (by omega))
  have g2 := own_lt' h2 (by omega) (by omega)
  exact Or.inr ⟨i, hc, Nat.le_refl _, hi, by omega, g2, h3, fun j j1 j2 => absurd j1 (by omega)⟩
theorem own_dec (x : Int32) : own_w x ∨ ¬ own_w x := Classical.em _
theorem own_toI {z : Int32} {n : Nat} (h : z.toInt = (n : Int)) (hn : n ≤ 9) : z = Int32.ofNat n := by
  apply Int32.toInt_inj.mp
  rw [h, Int32.toInt_ofNat_of_lt (by omega)]
theorem own_range (r : Int32) : ∃ f t : Nat, f ≤ t ∧ t ≤ 4 ∧ (r &&& (7 : Int32)) % (5 : Int32) = Int32.ofNat f ∧ ¬ ((5 : Int32) - Int32.ofNat f) = 0 ∧
    Int32.ofNat f + ((((r.toUInt32 >>> ((3 : Int32) &&& 31).toUInt32).toInt32) &&& (7 : Int32)) % ((5 : Int32) - Int32.ofNat f)) = Int32.ofNat t := by
  have m := c_mask r (7 : Int32) 3 (by decide) (by decide)
  have q := (c_irem (r &&& (7 : Int32)) (5 : Int32) 5 (by decide)).1 (by rw [m]; omega)
  obtain ⟨f, hf⟩ : ∃ f : Nat, (f : Int) = ((r &&& (7 : Int32)) % (5 : Int32)).toInt := ⟨((r &&& (7 : Int32)) % (5 : Int32)).toInt.toNat, Int.toNat_of_nonneg (by omega)⟩
  have ef := own_toI hf.symm (by omega)
  generalize ((r.toUInt32 >>> ((3 : Int32) &&& 31).toUInt32).toInt32) = w
  have m2 := c_mask w (7 : Int32) 3 (by decide) (by decide)
  have s := c_isub (5 : Int32) (Int32.ofNat f)
  have tf : (Int32.ofNat f).toInt = f := Int32.toInt_ofNat_of_lt (by omega)
  have k5 : (5 : Int32).toInt = 5 := by decide
  rw [k5, tf] at s
  have rs := rng32 ((5 : Int32) - Int32.ofNat f)
  have es : ((5 : Int32) - Int32.ofNat f).toInt = 5 - f := by omega
  have v := (c_iremV (w &&& (7 : Int32)) ((5 : Int32) - Int32.ofNat f)).1 (by rw [m2]; omega) (by rw [es]; omega)
  have ad := c_iadd (Int32.ofNat f) ((w &&& (7 : Int32)) % ((5 : Int32) - Int32.ofNat f))
  rw [tf] at ad
  have ra := rng32 (Int32.ofNat f + ((w &&& (7 : Int32)) % ((5 : Int32) - Int32.ofNat f)))
  obtain ⟨t, ht⟩ : ∃ t : Nat, (t : Int) = (Int32.ofNat f + ((w &&& (7 : Int32)) % ((5 : Int32) - Int32.ofNat f))).toInt := ⟨_, Int.toNat_of_nonneg (by omega)⟩
  refine ⟨f, t, by omega, by omega, ef, fun e => ?_, own_toI ht.symm (by omega)⟩
  rw [e] at es
  have k0 : (0 : Int32).toInt = 0 := by decide
  omega

theorem pd_0 : parseMethodDescriptor "(I)B" = some ⟨[.int], some .byte⟩ := by decide +kernel
theorem pd_1 : parseMethodDescriptor "(IIIB)Z" = some ⟨[.int, .int, .int, .byte], some .boolean⟩ := by decide +kernel
theorem pd_2 : parseMethodDescriptor "([BII)V" = some ⟨[(.array .byte), .int, .int], none⟩ := by decide +kernel
theorem pd_3 : parseMethodDescriptor "()V" = some ⟨[], none⟩ := by decide +kernel
theorem pd_4 : parseMethodDescriptor "()Z" = some ⟨[], some .boolean⟩ := by decide +kernel
theorem pd_5 : parseMethodDescriptor "(B)Z" = some ⟨[.byte], some .boolean⟩ := by decide +kernel
theorem pd_6 : parseMethodDescriptor "()B" = some ⟨[], some .byte⟩ := by decide +kernel
theorem d1_0 : decode method_2_code 0 = .ok (.iload_n 0, 1) := by decide +kernel
theorem d1_1 : decode method_2_code 1 = .ok (.iconst 3, 1) := by decide +kernel
theorem d1_2 : decode method_2_code 2 = .ok (.iand, 1) := by decide +kernel
theorem d1_3 : decode method_2_code 3 = .ok (.istore_n 1, 1) := by decide +kernel
theorem d1_4 : decode method_2_code 4 = .ok (.iload_n 1, 1) := by decide +kernel
theorem d1_5 : decode method_2_code 5 = .ok (.ifCond .ne 6, 3) := by decide +kernel
theorem d1_8 : decode method_2_code 8 = .ok (.bipush 32, 2) := by decide +kernel
theorem d1_10 : decode method_2_code 10 = .ok (.ireturn, 1) := by decide +kernel
theorem d1_11 : decode method_2_code 11 = .ok (.iload_n 1, 1) := by decide +kernel
theorem d1_12 : decode method_2_code 12 = .ok (.iconst 1, 1) := by decide +kernel
theorem d1_13 : decode method_2_code 13 = .ok (.if_icmp .ne 6, 3) := by decide +kernel
theorem d1_16 : decode method_2_code 16 = .ok (.bipush 9, 2) := by decide +kernel
theorem d1_18 : decode method_2_code 18 = .ok (.ireturn, 1) := by decide +kernel
theorem d1_19 : decode method_2_code 19 = .ok (.iload_n 1, 1) := by decide +kernel
theorem d1_20 : decode method_2_code 20 = .ok (.iconst 2, 1) := by decide +kernel
theorem d1_21 : decode method_2_code 21 = .ok (.if_icmp .ne 6, 3) := by decide +kernel
theorem d1_24 : decode method_2_code 24 = .ok (.bipush 13, 2) := by decide +kernel
theorem d1_26 : decode method_2_code 26 = .ok (.ireturn, 1) := by decide +kernel
theorem d1_27 : decode method_2_code 27 = .ok (.iload_n 0, 1) := by decide +kernel
theorem d1_28 : decode method_2_code 28 = .ok (.iconst 2, 1) := by decide +kernel
theorem d1_29 : decode method_2_code 29 = .ok (.iushr, 1) := by decide +kernel
theorem d1_30 : decode method_2_code 30 = .ok (.i2b, 1) := by decide +kernel
theorem d1_31 : decode method_2_code 31 = .ok (.ireturn, 1) := by decide +kernel
theorem pn_1 : plainFor (⟨"com/example/tuck/tuck/io/WordsHasNextPinLaw", "mk", "(I)B"⟩ : MethodName) = true := plainFor_of_name (by first | (simp [plainName, overriddenIn]; done) | decide +kernel)
set_option maxRecDepth 65536 in
set_option maxHeartbeats 40000000 in
theorem rm1 (l : Launch) (Z : State) (a0 : Array Value) (hw : ∀ d ∈ tables_1, d.before a0 Z = true) (p1 : Int32) (h0 : Heap) (n0 : Nat) (Z0 : n0 ≤ h0.size)  :
    own_Met l Z (⟨"com/example/tuck/tuck/io/WordsHasNextPinLaw", "mk", "(I)B"⟩ : MethodName) method_2_code 2 (some .byte) ({ frames := 0, cells := 0, slots := 0, locals := 0 } : Room) #[(.int p1)] h0 (fun v h L => ∃ x, v = some (.int x) ∧ Fr n0 L ∧ h = h0 ∧ x.toInt8.toInt32 = x) := by
  refine own_body pn_1 ?_
  intro p e s m below meth c T0 hZ hx hby hml hown hnm hret hlk X0 e0 F hF
  have N0 := Fr.nil n0
  have K0 := Keep.refl h0 []
  refine own_cast (g' := (mkF m 0 #[.val (.int p1), .unset] [])) (by first | rfl | simp [entryFrame, mkF, argsToLocals, Value.category]) ?_
  refine own_st (T' := T0) (g' := (mkF m 1 #[.val (.int p1), .unset] [(.int p1)])) (fun t9 k9 => XS.iloadN X0.here hx rfl (hb hby d1_0) rfl k9) ?_
  refine own_st (T' := T0) (g' := (mkF m 2 #[.val (.int p1), .unset] [(.int (3 : Int32)), (.int p1)])) (fun t9 k9 => XS.iconst X0.here hx rfl (hb hby d1_1) k9) ?_
  refine own_st (T' := T0) (g' := (mkF m 3 #[.val (.int p1), .unset] [(.int (p1 &&& (3 : Int32)))])) (fun t9 k9 => XS.iand X0.here hx rfl (hb hby d1_2) rfl k9) ?_
  refine own_st (T' := T0) (g' := (mkF m 4 #[.val (.int p1), .val (.int (p1 &&& (3 : Int32)))] [])) (fun t9 k9 => XS.istoreN X0.here hx rfl (hb hby d1_3) rfl (l' := #[.val (.int p1), .val (.int (p1 &&& (3 : Int32)))]) rfl k9) ?_
  refine own_st (T' := T0) (g' := (mkF m 5 #[.val (.int p1), .val (.int (p1 &&& (3 : Int32)))] [(.int (p1 &&& (3 : Int32)))])) (fun t9 k9 => XS.iloadN X0.here hx rfl (hb hby d1_4) rfl k9) ?_
  by_cases h0 : (p1 &&& (3 : Int32)) = (0 : Int32)
  · refine own_st (T' := T0) (g' := (mkF m 8 #[.val (.int p1), .val (.int (p1 &&& (3 : Int32)))] [])) (fun t9 k9 => XS.ifNo X0.here hx rfl (hb hby d1_5) rfl ((if0 _ _).trans (teq h0).2) k9) ?_
    refine own_st (T' := T0) (g' := (mkF m 10 #[.val (.int p1), .val (.int (p1 &&& (3 : Int32)))] [(.int (32 : Int32))])) (fun t9 k9 => XS.bipush X0.here hx rfl (hb hby d1_8) k9) ?_
    refine own_ret (v := some (.int (32 : Int32))) hF X0 (own_some hret) hlk (fun fs hr => retN X0 hx (t := .byte) hret (by simp) (hb hby d1_10) hr) ?_ (by decide) (by decide)
    try rw [e0]
    exact ⟨_, rfl, N0, rfl, by decide⟩
  · refine own_st (T' := T0) (g' := (mkF m 11 #[.val (.int p1), .val (.int (p1 &&& (3 : Int32)))] [])) (fun t9 k9 => XS.ifYes X0.here hx rfl (pc0 := 5) (pc' := 11) rfl (hb hby d1_5) rfl ((if0 _ _).trans (feq h0).2) (by decide) (by decide) k9) ?_
    refine own_st (T' := T0) (g' := (mkF m 12 #[.val (.int p1), .val (.int (p1 &&& (3 : Int32)))] [(.int (p1 &&& (3 : Int32)))])) (fun t9 k9 => XS.iloadN X0.here hx rfl (hb hby d1_11) rfl k9) ?_
    refine own_st (T' := T0) (g' := (mkF m 13 #[.val (.int p1), .val (.int (p1 &&& (3 : Int32)))] [(.int (1 : Int32)), (.int (p1 &&& (3 : Int32)))])) (fun t9 k9 => XS.iconst X0.here hx rfl (hb hby d1_12) k9) ?_
    by_cases h1 : (p1 &&& (3 : Int32)) = (1 : Int32)
    · refine own_st (T' := T0) (g' := (mkF m 16 #[.val (.int p1), .val (.int (p1 &&& (3 : Int32)))] [])) (fun t9 k9 => XS.icmpNo X0.here hx rfl (hb hby d1_13) rfl (teq h1).2 k9) ?_
      refine own_st (T' := T0) (g' := (mkF m 18 #[.val (.int p1), .val (.int (p1 &&& (3 : Int32)))] [(.int (9 : Int32))])) (fun t9 k9 => XS.bipush X0.here hx rfl (hb hby d1_16) k9) ?_
      refine own_ret (v := some (.int (9 : Int32))) hF X0 (own_some hret) hlk (fun fs hr => retN X0 hx (t := .byte) hret (by simp) (hb hby d1_18) hr) ?_ (by decide) (by decide)
      try rw [e0]
      exact ⟨_, rfl, N0, rfl, by decide⟩
    · refine own_st (T' := T0) (g' := (mkF m 19 #[.val (.int p1), .val (.int (p1 &&& (3 : Int32)))] [])) (fun t9 k9 => XS.icmpYes X0.here hx rfl (pc0 := 13) (pc' := 19) rfl (hb hby d1_13) rfl (feq h1).2 (by decide) (by decide) k9) ?_
      refine own_st (T' := T0) (g' := (mkF m 20 #[.val (.int p1), .val (.int (p1 &&& (3 : Int32)))] [(.int (p1 &&& (3 : Int32)))])) (fun t9 k9 => XS.iloadN X0.here hx rfl (hb hby d1_19) rfl k9) ?_
      refine own_st (T' := T0) (g' := (mkF m 21 #[.val (.int p1), .val (.int (p1 &&& (3 : Int32)))] [(.int (2 : Int32)), (.int (p1 &&& (3 : Int32)))])) (fun t9 k9 => XS.iconst X0.here hx rfl (hb hby d1_20) k9) ?_
      by_cases h2 : (p1 &&& (3 : Int32)) = (2 : Int32)
      · refine own_st (T' := T0) (g' := (mkF m 24 #[.val (.int p1), .val (.int (p1 &&& (3 : Int32)))] [])) (fun t9 k9 => XS.icmpNo X0.here hx rfl (hb hby d1_21) rfl (teq h2).2 k9) ?_
        refine own_st (T' := T0) (g' := (mkF m 26 #[.val (.int p1), .val (.int (p1 &&& (3 : Int32)))] [(.int (13 : Int32))])) (fun t9 k9 => XS.bipush X0.here hx rfl (hb hby d1_24) k9) ?_
        refine own_ret (v := some (.int (13 : Int32))) hF X0 (own_some hret) hlk (fun fs hr => retN X0 hx (t := .byte) hret (by simp) (hb hby d1_26) hr) ?_ (by decide) (by decide)
        try rw [e0]
        exact ⟨_, rfl, N0, rfl, by decide⟩
      · refine own_st (T' := T0) (g' := (mkF m 27 #[.val (.int p1), .val (.int (p1 &&& (3 : Int32)))] [])) (fun t9 k9 => XS.icmpYes X0.here hx rfl (pc0 := 21) (pc' := 27) rfl (hb hby d1_21) rfl (feq h2).2 (by decide) (by decide) k9) ?_
        refine own_st (T' := T0) (g' := (mkF m 28 #[.val (.int p1), .val (.int (p1 &&& (3 : Int32)))] [(.int p1)])) (fun t9 k9 => XS.iloadN X0.here hx rfl (hb hby d1_27) rfl k9) ?_
        refine own_st (T' := T0) (g' := (mkF m 29 #[.val (.int p1), .val (.int (p1 &&& (3 : Int32)))] [(.int (2 : Int32)), (.int p1)])) (fun t9 k9 => XS.iconst X0.here hx rfl (hb hby d1_28) k9) ?_
        refine own_st (T' := T0) (g' := (mkF m 30 #[.val (.int p1), .val (.int (p1 &&& (3 : Int32)))] [(.int ((p1.toUInt32 >>> ((2 : Int32) &&& 31).toUInt32).toInt32))])) (fun t9 k9 => XS.iushr X0.here hx rfl (hb hby d1_29) rfl k9) ?_
        refine own_st (T' := T0) (g' := (mkF m 31 #[.val (.int p1), .val (.int (p1 &&& (3 : Int32)))] [(.int (((p1.toUInt32 >>> ((2 : Int32) &&& 31).toUInt32).toInt32).toInt8.toInt32))])) (fun t9 k9 => XS.i2b X0.here hx rfl (hb hby d1_30) rfl k9) ?_
        refine own_ret (v := some (.int (nar .byte (((p1.toUInt32 >>> ((2 : Int32) &&& 31).toUInt32).toInt32).toInt8.toInt32)))) hF X0 (own_some hret) hlk (fun fs hr => retN X0 hx (t := .byte) hret (by simp) (hb hby d1_31) hr) ?_ (by decide) (by decide)
        try rw [e0]
        exact ⟨_, rfl, N0, rfl, by simp [nar]⟩
theorem d6_0 : decode method_3_code 0 = .ok (.iload_n 0, 1) := by decide +kernel
theorem d6_1 : decode method_3_code 1 = .ok (.bipush 32, 2) := by decide +kernel
theorem d6_3 : decode method_3_code 3 = .ok (.if_icmp .eq 15, 3) := by decide +kernel
theorem d6_6 : decode method_3_code 6 = .ok (.iload_n 0, 1) := by decide +kernel
theorem d6_7 : decode method_3_code 7 = .ok (.bipush 9, 2) := by decide +kernel
theorem d6_9 : decode method_3_code 9 = .ok (.if_icmp .eq 9, 3) := by decide +kernel
theorem d6_12 : decode method_3_code 12 = .ok (.iload_n 0, 1) := by decide +kernel
theorem d6_13 : decode method_3_code 13 = .ok (.bipush 13, 2) := by decide +kernel
theorem d6_15 : decode method_3_code 15 = .ok (.if_icmp .ne 7, 3) := by decide +kernel
theorem d6_18 : decode method_3_code 18 = .ok (.iconst 1, 1) := by decide +kernel
theorem d6_19 : decode method_3_code 19 = .ok (.goto 4, 3) := by decide +kernel
theorem d6_22 : decode method_3_code 22 = .ok (.iconst 0, 1) := by decide +kernel
theorem d6_23 : decode method_3_code 23 = .ok (.ireturn, 1) := by decide +kernel
theorem pn_6 : plainFor (⟨"com/example/tuck/tuck/io/WordsHasNextPinLaw", "blank", "(B)Z"⟩ : MethodName) = true := plainFor_of_name (by first | (simp [plainName, overriddenIn]; done) | decide +kernel)
set_option maxRecDepth 65536 in
set_option maxHeartbeats 40000000 in
theorem rm6 (l : Launch) (Z : State) (a0 : Array Value) (hw : ∀ d ∈ tables_1, d.before a0 Z = true) (p1 : Int32) (h0 : Heap) (n0 : Nat) (Z0 : n0 ≤ h0.size)  :
    own_Met l Z (⟨"com/example/tuck/tuck/io/WordsHasNextPinLaw", "blank", "(B)Z"⟩ : MethodName) method_3_code 1 (some .boolean) ({ frames := 0, cells := 0, slots := 0, locals := 0 } : Room) #[(.int p1)] h0 (fun v h L => ∃ z, v = some (.int z) ∧ Fr n0 L ∧ h = h0 ∧ own_B z (own_w p1)) := by
  refine own_body pn_6 ?_
  intro p e s m below meth c T0 hZ hx hby hml hown hnm hret hlk X0 e0 F hF
  have N0 := Fr.nil n0
  have K0 := Keep.refl h0 []
  refine own_cast (g' := (mkF m 0 #[.val (.int p1)] [])) (by first | rfl | simp [entryFrame, mkF, argsToLocals, Value.category]) ?_
  refine own_st (T' := T0) (g' := (mkF m 1 #[.val (.int p1)] [(.int p1)])) (fun t9 k9 => XS.iloadN X0.here hx rfl (hb hby d6_0) rfl k9) ?_
  refine own_st (T' := T0) (g' := (mkF m 3 #[.val (.int p1)] [(.int (32 : Int32)), (.int p1)])) (fun t9 k9 => XS.bipush X0.here hx rfl (hb hby d6_1) k9) ?_
  by_cases h1 : p1 = (32 : Int32)
  · refine own_st (T' := T0) (g' := (mkF m 18 #[.val (.int p1)] [])) (fun t9 k9 => XS.icmpYes X0.here hx rfl (pc0 := 3) (pc' := 18) rfl (hb hby d6_3) rfl (teq h1).1 (by decide) (by decide) k9) ?_
    refine own_st (T' := T0) (g' := (mkF m 19 #[.val (.int p1)] [(.int (1 : Int32))])) (fun t9 k9 => XS.iconst X0.here hx rfl (hb hby d6_18) k9) ?_
    refine own_st (T' := T0) (g' := (mkF m 23 #[.val (.int p1)] [(.int (1 : Int32))])) (fun t9 k9 => XS.goto X0.here hx rfl (pc0 := 19) (pc' := 23) rfl (hb hby d6_19) (by decide) (by decide) k9) ?_
    refine own_ret (v := some (.int (1 : Int32))) hF X0 (own_some hret) hlk (fun fs hr => retN X0 hx (t := .boolean) hret (by simp) (hb hby d6_23) hr) ?_ (by decide) (by decide)
    try rw [e0]
    exact ⟨_, rfl, N0, rfl, Or.inl ⟨rfl, Or.inl h1⟩⟩
  · refine own_st (T' := T0) (g' := (mkF m 6 #[.val (.int p1)] [])) (fun t9 k9 => XS.icmpNo X0.here hx rfl (hb hby d6_3) rfl (feq h1).1 k9) ?_
    refine own_st (T' := T0) (g' := (mkF m 7 #[.val (.int p1)] [(.int p1)])) (fun t9 k9 => XS.iloadN X0.here hx rfl (hb hby d6_6) rfl k9) ?_
    refine own_st (T' := T0) (g' := (mkF m 9 #[.val (.int p1)] [(.int (9 : Int32)), (.int p1)])) (fun t9 k9 => XS.bipush X0.here hx rfl (hb hby d6_7) k9) ?_
    by_cases h2 : p1 = (9 : Int32)
    · refine own_st (T' := T0) (g' := (mkF m 18 #[.val (.int p1)] [])) (fun t9 k9 => XS.icmpYes X0.here hx rfl (pc0 := 9) (pc' := 18) rfl (hb hby d6_9) rfl (teq h2).1 (by decide) (by decide) k9) ?_
      refine own_st (T' := T0) (g' := (mkF m 19 #[.val (.int p1)] [(.int (1 : Int32))])) (fun t9 k9 => XS.iconst X0.here hx rfl (hb hby d6_18) k9) ?_
      refine own_st (T' := T0) (g' := (mkF m 23 #[.val (.int p1)] [(.int (1 : Int32))])) (fun t9 k9 => XS.goto X0.here hx rfl (pc0 := 19) (pc' := 23) rfl (hb hby d6_19) (by decide) (by decide) k9) ?_
      refine own_ret (v := some (.int (1 : Int32))) hF X0 (own_some hret) hlk (fun fs hr => retN X0 hx (t := .boolean) hret (by simp) (hb hby d6_23) hr) ?_ (by decide) (by decide)
      try rw [e0]
      exact ⟨_, rfl, N0, rfl, Or.inl ⟨rfl, Or.inr (Or.inl h2)⟩⟩
    · refine own_st (T' := T0) (g' := (mkF m 12 #[.val (.int p1)] [])) (fun t9 k9 => XS.icmpNo X0.here hx rfl (hb hby d6_9) rfl (feq h2).1 k9) ?_
      refine own_st (T' := T0) (g' := (mkF m 13 #[.val (.int p1)] [(.int p1)])) (fun t9 k9 => XS.iloadN X0.here hx rfl (hb hby d6_12) rfl k9) ?_
      refine own_st (T' := T0) (g' := (mkF m 15 #[.val (.int p1)] [(.int (13 : Int32)), (.int p1)])) (fun t9 k9 => XS.bipush X0.here hx rfl (hb hby d6_13) k9) ?_
      by_cases h3 : p1 = (13 : Int32)
      · refine own_st (T' := T0) (g' := (mkF m 18 #[.val (.int p1)] [])) (fun t9 k9 => XS.icmpNo X0.here hx rfl (hb hby d6_15) rfl (teq h3).2 k9) ?_
        refine own_st (T' := T0) (g' := (mkF m 19 #[.val (.int p1)] [(.int (1 : Int32))])) (fun t9 k9 => XS.iconst X0.here hx rfl (hb hby d6_18) k9) ?_
        refine own_st (T' := T0) (g' := (mkF m 23 #[.val (.int p1)] [(.int (1 : Int32))])) (fun t9 k9 => XS.goto X0.here hx rfl (pc0 := 19) (pc' := 23) rfl (hb hby d6_19) (by decide) (by decide) k9) ?_
        refine own_ret (v := some (.int (1 : Int32))) hF X0 (own_some hret) hlk (fun fs hr => retN X0 hx (t := .boolean) hret (by simp) (hb hby d6_23) hr) ?_ (by decide) (by decide)
        try rw [e0]
        exact ⟨_, rfl, N0, rfl, Or.inl ⟨rfl, Or.inr (Or.inr h3)⟩⟩
      · refine own_st (T' := T0) (g' := (mkF m 22 #[.val (.int p1)] [])) (fun t9 k9 => XS.icmpYes X0.here hx rfl (pc0 := 15) (pc' := 22) rfl (hb hby d6_15) rfl (feq h3).2 (by decide) (by decide) k9) ?_
        refine own_st (T' := T0) (g' := (mkF m 23 #[.val (.int p1)] [(.int (0 : Int32))])) (fun t9 k9 => XS.iconst X0.here hx rfl (hb hby d6_22) k9) ?_
        refine own_ret (v := some (.int (0 : Int32))) hF X0 (own_some hret) hlk (fun fs hr => retN X0 hx (t := .boolean) hret (by simp) (hb hby d6_23) hr) ?_ (by decide) (by decide)
        try rw [e0]
        exact ⟨_, rfl, N0, rfl, Or.inr ⟨rfl, fun q => q.elim h1 (fun q => q.elim h2 h3)⟩⟩
theorem d7_0 : decode prog_7_method_9_code 0 = .ok (.iload_n 0, 1) := by decide +kernel
theorem d7_1 : decode prog_7_method_9_code 1 = .ok (.bipush 32, 2) := by decide +kernel
theorem d7_3 : decode prog_7_method_9_code 3 = .ok (.if_icmp .eq 15, 3) := by decide +kernel
theorem d7_6 : decode prog_7_method_9_code 6 = .ok (.iload_n 0, 1) := by decide +kernel
theorem d7_7 : decode prog_7_method_9_code 7 = .ok (.bipush 9, 2) := by decide +kernel
theorem d7_9 : decode prog_7_method_9_code 9 = .ok (.if_icmp .eq 9, 3) := by decide +kernel
theorem d7_12 : decode prog_7_method_9_code 12 = .ok (.iload_n 0, 1) := by decide +kernel
theorem d7_13 : decode prog_7_method_9_code 13 = .ok (.bipush 13, 2) := by decide +kernel
theorem d7_15 : decode prog_7_method_9_code 15 = .ok (.if_icmp .ne 7, 3) := by decide +kernel
theorem d7_18 : decode prog_7_method_9_code 18 = .ok (.iconst 1, 1) := by decide +kernel
theorem d7_19 : decode prog_7_method_9_code 19 = .ok (.goto 4, 3) := by decide +kernel
theorem d7_22 : decode prog_7_method_9_code 22 = .ok (.iconst 0, 1) := by decide +kernel
theorem d7_23 : decode prog_7_method_9_code 23 = .ok (.ireturn, 1) := by decide +kernel
theorem pn_7 : plainFor (⟨"com/example/tuck/tuck/io/Words", "isBlank", "(B)Z"⟩ : MethodName) = true := plainFor_of_name (by first | (simp [plainName, overriddenIn]; done) | decide +kernel)
set_option maxRecDepth 65536 in
set_option maxHeartbeats 40000000 in
theorem rm7 (l : Launch) (Z : State) (a0 : Array Value) (hw : ∀ d ∈ tables_1, d.before a0 Z = true) (p1 : Int32) (h0 : Heap) (n0 : Nat) (Z0 : n0 ≤ h0.size)  :
    own_Met l Z (⟨"com/example/tuck/tuck/io/Words", "isBlank", "(B)Z"⟩ : MethodName) prog_7_method_9_code 1 (some .boolean) ({ frames := 0, cells := 0, slots := 0, locals := 0 } : Room) #[(.int p1)] h0 (fun v h L => ∃ z, v = some (.int z) ∧ Fr n0 L ∧ h = h0 ∧ own_B z (own_w p1)) := by
  refine own_body pn_7 ?_
  intro p e s m below meth c T0 hZ hx hby hml hown hnm hret hlk X0 e0 F hF
  have N0 := Fr.nil n0
  have K0 := Keep.refl h0 []
  refine own_cast (g' := (mkF m 0 #[.val (.int p1)] [])) (by first | rfl | simp [entryFrame, mkF, argsToLocals, Value.category]) ?_
  refine own_st (T' := T0) (g' := (mkF m 1 #[.val (.int p1)] [(.int p1)])) (fun t9 k9 => XS.iloadN X0.here hx rfl (hb hby d7_0) rfl k9) ?_
  refine own_st (T' := T0) (g' := (mkF m 3 #[.val (.int p1)] [(.int (32 : Int32)), (.int p1)])) (fun t9 k9 => XS.bipush X0.here hx rfl (hb hby d7_1) k9) ?_
  by_cases h1 : p1 = (32 : Int32)
  · refine own_st (T' := T0) (g' := (mkF m 18 #[.val (.int p1)] [])) (fun t9 k9 => XS.icmpYes X0.here hx rfl (pc0 := 3) (pc' := 18) rfl (hb hby d7_3) rfl (teq h1).1 (by decide) (by decide) k9) ?_
    refine own_st (T' := T0) (g' := (mkF m 19 #[.val (.int p1)] [(.int (1 : Int32))])) (fun t9 k9 => XS.iconst X0.here hx rfl (hb hby d7_18) k9) ?_
    refine own_st (T' := T0) (g' := (mkF m 23 #[.val (.int p1)] [(.int (1 : Int32))])) (fun t9 k9 => XS.goto X0.here hx rfl (pc0 := 19) (pc' := 23) rfl (hb hby d7_19) (by decide) (by decide) k9) ?_
    refine own_ret (v := some (.int (1 : Int32))) hF X0 (own_some hret) hlk (fun fs hr => retN X0 hx (t := .boolean) hret (by simp) (hb hby d7_23) hr) ?_ (by decide) (by decide)
    try rw [e0]
    exact ⟨_, rfl, N0, rfl, Or.inl ⟨rfl, Or.inl h1⟩⟩
  · refine own_st (T' := T0) (g' := (mkF m 6 #[.val (.int p1)] [])) (fun t9 k9 => XS.icmpNo X0.here hx rfl (hb hby d7_3) rfl (feq h1).1 k9) ?_
    refine own_st (T' := T0) (g' := (mkF m 7 #[.val (.int p1)] [(.int p1)])) (fun t9 k9 => XS.iloadN X0.here hx rfl (hb hby d7_6) rfl k9) ?_
    refine own_st (T' := T0) (g' := (mkF m 9 #[.val (.int p1)] [(.int (9 : Int32)), (.int p1)])) (fun t9 k9 => XS.bipush X0.here hx rfl (hb hby d7_7) k9) ?_
    by_cases h2 : p1 = (9 : Int32)
    · refine own_st (T' := T0) (g' := (mkF m 18 #[.val (.int p1)] [])) (fun t9 k9 => XS.icmpYes X0.here hx rfl (pc0 := 9) (pc' := 18) rfl (hb hby d7_9) rfl (teq h2).1 (by decide) (by decide) k9) ?_
      refine own_st (T' := T0) (g' := (mkF m 19 #[.val (.int p1)] [(.int (1 : Int32))])) (fun t9 k9 => XS.iconst X0.here hx rfl (hb hby d7_18) k9) ?_
      refine own_st (T' := T0) (g' := (mkF m 23 #[.val (.int p1)] [(.int (1 : Int32))])) (fun t9 k9 => XS.goto X0.here hx rfl (pc0 := 19) (pc' := 23) rfl (hb hby d7_19) (by decide) (by decide) k9) ?_
      refine own_ret (v := some (.int (1 : Int32))) hF X0 (own_some hret) hlk (fun fs hr => retN X0 hx (t := .boolean) hret (by simp) (hb hby d7_23) hr) ?_ (by decide) (by decide)
      try rw [e0]
      exact ⟨_, rfl, N0, rfl, Or.inl ⟨rfl, Or.inr (Or.inl h2)⟩⟩
    · refine own_st (T' := T0) (g' := (mkF m 12 #[.val (.int p1)] [])) (fun t9 k9 => XS.icmpNo X0.here hx rfl (hb hby d7_9) rfl (feq h2).1 k9) ?_
      refine own_st (T' := T0) (g' := (mkF m 13 #[.val (.int p1)] [(.int p1)])) (fun t9 k9 => XS.iloadN X0.here hx rfl (hb hby d7_12) rfl k9) ?_
      refine own_st (T' := T0) (g' := (mkF m 15 #[.val (.int p1)] [(.int (13 : Int32)), (.int p1)])) (fun t9 k9 => XS.bipush X0.here hx rfl (hb hby d7_13) k9) ?_
      by_cases h3 : p1 = (13 : Int32)
      · refine own_st (T' := T0) (g' := (mkF m 18 #[.val (.int p1)] [])) (fun t9 k9 => XS.icmpNo X0.here hx rfl (hb hby d7_15) rfl (teq h3).2 k9) ?_
        refine own_st (T' := T0) (g' := (mkF m 19 #[.val (.int p1)] [(.int (1 : Int32))])) (fun t9 k9 => XS.iconst X0.here hx rfl (hb hby d7_18) k9) ?_
        refine own_st (T' := T0) (g' := (mkF m 23 #[.val (.int p1)] [(.int (1 : Int32))])) (fun t9 k9 => XS.goto X0.here hx rfl (pc0 := 19) (pc' := 23) rfl (hb hby d7_19) (by decide) (by decide) k9) ?_
        refine own_ret (v := some (.int (1 : Int32))) hF X0 (own_some hret) hlk (fun fs hr => retN X0 hx (t := .boolean) hret (by simp) (hb hby d7_23) hr) ?_ (by decide) (by decide)
        try rw [e0]
        exact ⟨_, rfl, N0, rfl, Or.inl ⟨rfl, Or.inr (Or.inr h3)⟩⟩
      · refine own_st (T' := T0) (g' := (mkF m 22 #[.val (.int p1)] [])) (fun t9 k9 => XS.icmpYes X0.here hx rfl (pc0 := 15) (pc' := 22) rfl (hb hby d7_15) rfl (feq h3).2 (by decide) (by decide) k9) ?_
        refine own_st (T' := T0) (g' := (mkF m 23 #[.val (.int p1)] [(.int (0 : Int32))])) (fun t9 k9 => XS.iconst X0.here hx rfl (hb hby d7_22) k9) ?_
        refine own_ret (v := some (.int (0 : Int32))) hF X0 (own_some hret) hlk (fun fs hr => retN X0 hx (t := .boolean) hret (by simp) (hb hby d7_23) hr) ?_ (by decide) (by decide)
        try rw [e0]
        exact ⟨_, rfl, N0, rfl, Or.inr ⟨rfl, fun q => q.elim h1 (fun q => q.elim h2 h3)⟩⟩
theorem d2_0 : decode method_4_code 0 = .ok (.iload_n 0, 1) := by decide +kernel
theorem d2_1 : decode method_4_code 1 = .ok (.iload_n 1, 1) := by decide +kernel
theorem d2_2 : decode method_4_code 2 = .ok (.if_icmp .lt 19, 3) := by decide +kernel
theorem d2_5 : decode method_4_code 5 = .ok (.iload_n 0, 1) := by decide +kernel
theorem d2_6 : decode method_4_code 6 = .ok (.iload_n 2, 1) := by decide +kernel
theorem d2_7 : decode method_4_code 7 = .ok (.if_icmp .ge 14, 3) := by decide +kernel
theorem d2_10 : decode method_4_code 10 = .ok (.iload_n 3, 1) := by decide +kernel
theorem d2_11 : decode method_4_code 11 = .ok (.invokestatic 7, 3) := by decide +kernel
theorem d2_14 : decode method_4_code 14 = .ok (.ifCond .ne 7, 3) := by decide +kernel
theorem d2_17 : decode method_4_code 17 = .ok (.iconst 1, 1) := by decide +kernel
theorem d2_18 : decode method_4_code 18 = .ok (.goto 4, 3) := by decide +kernel
theorem d2_21 : decode method_4_code 21 = .ok (.iconst 0, 1) := by decide +kernel
theorem d2_22 : decode method_4_code 22 = .ok (.ireturn, 1) := by decide +kernel
theorem pn_2 : plainFor (⟨"com/example/tuck/tuck/io/WordsHasNextPinLaw", "counts", "(IIIB)Z"⟩ : MethodName) = true := plainFor_of_name (by first | (simp [plainName, overriddenIn]; done) | decide +kernel)
set_option maxRecDepth 65536 in
set_option maxHeartbeats 40000000 in
theorem rm2 (l : Launch) (Z : State) (a0 : Array Value) (hw : ∀ d ∈ tables_1, d.before a0 Z = true) (p1 p2 p3 p4 : Int32) (h0 : Heap) (n0 : Nat) (Z0 : n0 ≤ h0.size)  :
    own_Met l Z (⟨"com/example/tuck/tuck/io/WordsHasNextPinLaw", "counts", "(IIIB)Z"⟩ : MethodName) method_4_code 4 (some .boolean) ({ frames := 1, cells := 0, slots := 0, locals := 12 } : Room) #[(.int p1), (.int p2), (.int p3), (.int p4)] h0 (fun v h L => ∃ z, v = some (.int z) ∧ Fr n0 L ∧ h = h0 ∧ own_B z (¬ p1 < p2 ∧ p1 < p3 ∧ ¬ own_w p4)) := by
  refine own_body pn_2 ?_
  intro p e s m below meth c T0 hZ hx hby hml hown hnm hret hlk X0 e0 F hF
  have N0 := Fr.nil n0
  have K0 := Keep.refl h0 []
  refine own_cast (g' := (mkF m 0 #[.val (.int p1), .val (.int p2), .val (.int p3), .val (.int p4)] [])) (by first | rfl | simp [entryFrame, mkF, argsToLocals, Value.category]) ?_
  refine own_st (T' := T0) (g' := (mkF m 1 #[.val (.int p1), .val (.int p2), .val (.int p3), .val (.int p4)] [(.int p1)])) (fun t9 k9 => XS.iloadN X0.here hx rfl (hb hby d2_0) rfl k9) ?_
  refine own_st (T' := T0) (g' := (mkF m 2 #[.val (.int p1), .val (.int p2), .val (.int p3), .val (.int p4)] [(.int p2), (.int p1)])) (fun t9 k9 => XS.iloadN X0.here hx rfl (hb hby d2_1) rfl k9) ?_
  by_cases h1 : p1 < p2
  · refine own_st (T' := T0) (g' := (mkF m 21 #[.val (.int p1), .val (.int p2), .val (.int p3), .val (.int p4)] [])) (fun t9 k9 => XS.icmpYes X0.here hx rfl (pc0 := 2) (pc' := 21) rfl (hb hby d2_2) rfl (tlt h1).1 (by decide) (by decide) k9) ?_
    refine own_st (T' := T0) (g' := (mkF m 22 #[.val (.int p1), .val (.int p2), .val (.int p3), .val (.int p4)] [(.int (0 : Int32))])) (fun t9 k9 => XS.iconst X0.here hx rfl (hb hby d2_21) k9) ?_
    refine own_ret (v := some (.int (0 : Int32))) hF X0 (own_some hret) hlk (fun fs hr => retN X0 hx (t := .boolean) hret (by simp) (hb hby d2_22) hr) ?_ (by decide) (by decide)
    try rw [e0]
    exact ⟨_, rfl, N0, rfl, Or.inr ⟨rfl, fun q => q.1 h1⟩⟩
  · refine own_st (T' := T0) (g' := (mkF m 5 #[.val (.int p1), .val (.int p2), .val (.int p3), .val (.int p4)] [])) (fun t9 k9 => XS.icmpNo X0.here hx rfl (hb hby d2_2) rfl (flt h1).1 k9) ?_
    refine own_st (T' := T0) (g' := (mkF m 6 #[.val (.int p1), .val (.int p2), .val (.int p3), .val (.int p4)] [(.int p1)])) (fun t9 k9 => XS.iloadN X0.here hx rfl (hb hby d2_5) rfl k9) ?_
    refine own_st (T' := T0) (g' := (mkF m 7 #[.val (.int p1), .val (.int p2), .val (.int p3), .val (.int p4)] [(.int p3), (.int p1)])) (fun t9 k9 => XS.iloadN X0.here hx rfl (hb hby d2_6) rfl k9) ?_
    by_cases h2 : p1 < p3
    · refine own_st (T' := T0) (g' := (mkF m 10 #[.val (.int p1), .val (.int p2), .val (.int p3), .val (.int p4)] [])) (fun t9 k9 => XS.icmpNo X0.here hx rfl (hb hby d2_7) rfl (tlt h2).2.1 k9) ?_
      refine own_st (T' := T0) (g' := (mkF m 11 #[.val (.int p1), .val (.int p2), .val (.int p3), .val (.int p4)] [(.int p4)])) (fun t9 k9 => XS.iloadN X0.here hx rfl (hb hby d2_10) rfl k9) ?_
      obtain ⟨_, _, ⟨T1, L1, k1, n1⟩, -, X1, ⟨Lc1, hQ1, l1, y1, z1⟩, st1⟩ := Jvm.LawKit.callS X0 hx (y := (⟨"com/example/tuck/tuck/io/WordsHasNextPinLaw", "blank", "(B)Z"⟩ : MethodName)) hown (mvT hZ (hw _ (List.mem_of_getElem? (i := 28) rfl))) (mvT hZ (hw _ (List.mem_of_getElem? (i := 29) rfl))) (mvT hZ (hw _ (List.mem_of_getElem? (i := 2) rfl))) (mvT hZ (hw _ (List.mem_of_getElem? (i := 30) rfl))) (by decide) (own_back (W := 0) (rm6 l Z a0 hw p4 h0 n0 Z0) hZ (hw _ (List.mem_of_getElem? (i := 30) rfl)) (hw _ (List.mem_of_getElem? (i := 2) rfl)) (by decide) (by decide)) (g := (mkF m 11 #[.val (.int p1), .val (.int p2), .val (.int p3), .val (.int p4)] [(.int p4)])) rfl (by rw [hml]; rfl) (argsL := [(.int p4)]) (rest := []) (lenOf pd_5 rfl) rfl (by show 2 * 0 + _ ≤ _; exact Nat.le_of_eq rfl) (hb hby d2_11) (fun _ _ => ⟨rfl, e0, (Nat.le_of_ble_eq_true rfl), (Nat.le_of_ble_eq_true rfl)⟩)
      dsimp only [Pt.U, Pt.locs, Pt.cells, Pt.slots] at X1 l1 y1 z1 st1 hQ1
      subst l1 y1 z1
      obtain ⟨z1, rfl, Nq1, he1, hB1⟩ := hQ1
      have N1 := Fr.app N0 Nq1
      have e1 : T1.heap = h0 := he1
      refine own_st (T' := T1) (g' := (mkF m 14 #[.val (.int p1), .val (.int p2), .val (.int p3), .val (.int p4)] [(.int z1)])) (fun t9 k9 => st1 t9 k9) ?_
      by_cases h3 : z1 = (0 : Int32)
      · refine own_st (T' := T1) (g' := (mkF m 17 #[.val (.int p1), .val (.int p2), .val (.int p3), .val (.int p4)] [])) (fun t9 k9 => XS.ifNo X1.here hx rfl (hb hby d2_14) rfl ((if0 _ _).trans (teq h3).2) k9) ?_
        refine own_st (T' := T1) (g' := (mkF m 18 #[.val (.int p1), .val (.int p2), .val (.int p3), .val (.int p4)] [(.int (1 : Int32))])) (fun t9 k9 => XS.iconst X1.here hx rfl (hb hby d2_17) k9) ?_
        refine own_st (T' := T1) (g' := (mkF m 22 #[.val (.int p1), .val (.int p2), .val (.int p3), .val (.int p4)] [(.int (1 : Int32))])) (fun t9 k9 => XS.goto X1.here hx rfl (pc0 := 18) (pc' := 22) rfl (hb hby d2_18) (by decide) (by decide) k9) ?_
        refine own_ret (v := some (.int (1 : Int32))) hF X1 (own_some hret) hlk (fun fs hr => retN X1 hx (t := .boolean) hret (by simp) (hb hby d2_22) hr) ?_ (by decide) (by decide)
        try rw [e1]
        exact ⟨_, rfl, N1, rfl, Or.inl ⟨rfl, h1, h2, hB1.no h3⟩⟩
      · refine own_st (T' := T1) (g' := (mkF m 21 #[.val (.int p1), .val (.int p2), .val (.int p3), .val (.int p4)] [])) (fun t9 k9 => XS.ifYes X1.here hx rfl (pc0 := 14) (pc' := 21) rfl (hb hby d2_14) rfl ((if0 _ _).trans (feq h3).2) (by decide) (by decide) k9) ?_
        refine own_st (T' := T1) (g' := (mkF m 22 #[.val (.int p1), .val (.int p2), .val (.int p3), .val (.int p4)] [(.int (0 : Int32))])) (fun t9 k9 => XS.iconst X1.here hx rfl (hb hby d2_21) k9) ?_
        refine own_ret (v := some (.int (0 : Int32))) hF X1 (own_some hret) hlk (fun fs hr => retN X1 hx (t := .boolean) hret (by simp) (hb hby d2_22) hr) ?_ (by decide) (by decide)
        try rw [e1]
        exact ⟨_, rfl, N1, rfl, Or.inr ⟨rfl, fun q => q.2.2 (hB1.yes h3)⟩⟩
    · refine own_st (T' := T0) (g' := (mkF m 21 #[.val (.int p1), .val (.int p2), .val (.int p3), .val (.int p4)] [])) (fun t9 k9 => XS.icmpYes X0.here hx rfl (pc0 := 7) (pc' := 21) rfl (hb hby d2_7) rfl (flt h2).2.1 (by decide) (by decide) k9) ?_
      refine own_st (T' := T0) (g' := (mkF m 22 #[.val (.int p1), .val (.int p2), .val (.int p3), .val (.int p4)] [(.int (0 : Int32))])) (fun t9 k9 => XS.iconst X0.here hx rfl (hb hby d2_21) k9) ?_
      refine own_ret (v := some (.int (0 : Int32))) hF X0 (own_some hret) hlk (fun fs hr => retN X0 hx (t := .boolean) hret (by simp) (hb hby d2_22) hr) ?_ (by decide) (by decide)
      try rw [e0]
      exact ⟨_, rfl, N0, rfl, Or.inr ⟨rfl, fun q => h2 q.2.1⟩⟩
theorem d3_0 : decode prog_7_method_2_code 0 = .ok (.aload_n 0, 1) := by decide +kernel
theorem d3_1 : decode prog_7_method_2_code 1 = .ok (.invokespecial 7, 3) := by decide +kernel
theorem d3_4 : decode prog_7_method_2_code 4 = .ok (.aload_n 0, 1) := by decide +kernel
theorem d3_5 : decode prog_7_method_2_code 5 = .ok (.aload_n 1, 1) := by decide +kernel
theorem d3_6 : decode prog_7_method_2_code 6 = .ok (.putfield 12, 3) := by decide +kernel
theorem d3_9 : decode prog_7_method_2_code 9 = .ok (.aload_n 0, 1) := by decide +kernel
theorem d3_10 : decode prog_7_method_2_code 10 = .ok (.iload_n 2, 1) := by decide +kernel
theorem d3_11 : decode prog_7_method_2_code 11 = .ok (.putfield 16, 3) := by decide +kernel
theorem d3_14 : decode prog_7_method_2_code 14 = .ok (.aload_n 0, 1) := by decide +kernel
theorem d3_15 : decode prog_7_method_2_code 15 = .ok (.iload_n 3, 1) := by decide +kernel
theorem d3_16 : decode prog_7_method_2_code 16 = .ok (.putfield 20, 3) := by decide +kernel
theorem d3_19 : decode prog_7_method_2_code 19 = .ok (.return_, 1) := by decide +kernel
theorem pn_3 : plainFor (⟨"com/example/tuck/tuck/io/Words", "<init>", "([BII)V"⟩ : MethodName) = true := plainFor_of_name (by first | (simp [plainName, overriddenIn]; done) | decide +kernel)
set_option maxRecDepth 65536 in
set_option maxHeartbeats 40000000 in
theorem rm3 (l : Launch) (Z : State) (a0 : Array Value) (hw : ∀ d ∈ tables_1, d.before a0 Z = true) (a1 d1 : Addr) (p2 p3 : Int32) (u1 u2 u3 : Value) (h0 : Heap) (n0 : Nat) (Z0 : n0 ≤ h0.size) (E1 : Exa Z h0 a1 "com/example/tuck/tuck/io/Words") (F1 : Fld Z h0 a1 "com/example/tuck/tuck/io/Words" "line" "[B" u1) (F2 : Fld Z h0 a1 "com/example/tuck/tuck/io/Words" "pos" "I" u2) (F3 : Fld Z h0 a1 "com/example/tuck/tuck/io/Words" "end" "I" u3) (g_a1 : n0 ≤ a1) :
    own_Met l Z (⟨"com/example/tuck/tuck/io/Words", "<init>", "([BII)V"⟩ : MethodName) prog_7_method_2_code 4 none ({ frames := 1, cells := 0, slots := 0, locals := 12 } : Room) #[(.ref a1), (.ref d1), (.int p2), (.int p3)] h0 (fun v h L => v = none ∧ Fr n0 L ∧ Keep h0 h [a1] ∧ Exa Z h a1 "com/example/tuck/tuck/io/Words" ∧ Fld Z h a1 "com/example/tuck/tuck/io/Words" "line" "[B" (.ref d1) ∧ Fld Z h a1 "com/example/tuck/tuck/io/Words" "pos" "I" (.int p2) ∧ Fld Z h a1 "com/example/tuck/tuck/io/Words" "end" "I" (.int p3)) := by
  refine own_body pn_3 ?_
  intro p e s m below meth c T0 hZ hx hby hml hown hnm hret hlk X0 e0 F hF
  have N0 := Fr.nil n0
  have K0 := Keep.refl h0 [a1]
  refine own_cast (g' := (mkF m 0 #[.val (.ref a1), .val (.ref d1), .val (.int p2), .val (.int p3)] [])) (by first | rfl | simp [entryFrame, mkF, argsToLocals, Value.category]) ?_
  refine own_st (T' := T0) (g' := (mkF m 1 #[.val (.ref a1), .val (.ref d1), .val (.int p2), .val (.int p3)] [(.ref a1)])) (fun t9 k9 => XS.aloadN X0.here hx rfl (hb hby d3_0) rfl rfl k9) ?_
  obtain ⟨T1, X1, e1, st1⟩ := initO X0 hx hZ hown (hw _ (List.mem_of_getElem? (i := 14) rfl)) (hw _ (List.mem_of_getElem? (i := 15) rfl)) (hw _ (List.mem_of_getElem? (i := 16) rfl)) e0 (g := (mkF m 1 #[.val (.ref a1), .val (.ref d1), .val (.int p2), .val (.int p3)] [(.ref a1)])) rfl (by rw [hml]; rfl) rfl (hb hby d3_1) (by decide) (W := 0) (by show 2 * 0 + _ ≤ _; exact Nat.le_of_eq rfl) (by decide)
  refine own_st (T' := T1) (g' := (mkF m 4 #[.val (.ref a1), .val (.ref d1), .val (.int p2), .val (.int p3)] [])) (fun t9 k9 => st1 t9 k9) ?_
  refine own_st (T' := T1) (g' := (mkF m 5 #[.val (.ref a1), .val (.ref d1), .val (.int p2), .val (.int p3)] [(.ref a1)])) (fun t9 k9 => XS.aloadN X1.here hx rfl (hb hby d3_4) rfl rfl k9) ?_
  refine own_st (T' := T1) (g' := (mkF m 6 #[.val (.ref a1), .val (.ref d1), .val (.int p2), .val (.int p3)] [(.ref d1), (.ref a1)])) (fun t9 k9 => XS.aloadN X1.here hx rfl (hb hby d3_5) rfl rfl k9) ?_
  obtain ⟨T2, h2, X2, e2, W2, st2⟩ := putF X1 hx hZ hown (host := "") (Or.inl (hw _ (List.mem_of_getElem? (i := 17) rfl))) Via.refl e1 F1 E1 (Or.inr ⟨(hw _ (List.mem_of_getElem? (i := 18) rfl)), rfl, hnm⟩) (hw _ (List.mem_of_getElem? (i := 9) rfl)) (ty := (.array .byte)) (by decide) rfl rfl (g := (mkF m 6 #[.val (.ref a1), .val (.ref d1), .val (.int p2), .val (.int p3)] [(.ref d1), (.ref a1)])) rfl rfl (hb hby d3_6)
  have Fw2 := F1.same W2
  have E1_3 := E1.wr W2
  have F2_4 := F2.other W2 (Or.inr (slot_ne (Or.inl (hw _ (List.mem_of_getElem? (i := 20) rfl))) (Or.inr (hw _ (List.mem_of_getElem? (i := 18) rfl))) (by decide) (t := .int) (t' := (.array .byte)) (by decide) (by decide)))
  have F3_5 := F3.other W2 (Or.inr (slot_ne (Or.inr (hw _ (List.mem_of_getElem? (i := 22) rfl))) (Or.inr (hw _ (List.mem_of_getElem? (i := 18) rfl))) (by decide) (t := .int) (t' := (.array .byte)) (by decide) (by decide)))
  have K2 := K0.wr W2 (Or.inl (by simp))
  have N2 := Fr.snoc X2 N0 g_a1
  have Z2 : n0 ≤ h2.size := by rw [W2.size]; exact Z0
  refine own_st (T' := T2) (g' := (mkF m 9 #[.val (.ref a1), .val (.ref d1), .val (.int p2), .val (.int p3)] [])) (fun t9 k9 => st2 t9 k9) ?_
  refine own_st (T' := T2) (g' := (mkF m 10 #[.val (.ref a1), .val (.ref d1), .val (.int p2), .val (.int p3)] [(.ref a1)])) (fun t9 k9 => XS.aloadN X2.here hx rfl (hb hby d3_9) rfl rfl k9) ?_
  refine own_st (T' := T2) (g' := (mkF m 11 #[.val (.ref a1), .val (.ref d1), .val (.int p2), .val (.int p3)] [(.int p2), (.ref a1)])) (fun t9 k9 => XS.iloadN X2.here hx rfl (hb hby d3_10) rfl k9) ?_
  obtain ⟨T6, h6, X6, e6, W6, st6⟩ := putF X2 hx hZ hown (host := "") (Or.inl (hw _ (List.mem_of_getElem? (i := 19) rfl))) Via.refl e2 F2_4 E1_3 (Or.inl (hw _ (List.mem_of_getElem? (i := 20) rfl))) (hw _ (List.mem_of_getElem? (i := 9) rfl)) (ty := .int) (by decide) rfl rfl (g := (mkF m 11 #[.val (.ref a1), .val (.ref d1), .val (.int p2), .val (.int p3)] [(.int p2), (.ref a1)])) rfl rfl (hb hby d3_11)
  have Fw6 := F2_4.same W6
  have E1_7 := E1_3.wr W6
  have Fw2_8 := Fw2.other W6 (Or.inr (slot_ne (Or.inr (hw _ (List.mem_of_getElem? (i := 18) rfl))) (Or.inl (hw _ (List.mem_of_getElem? (i := 20) rfl))) (by decide) (t := (.array .byte)) (t' := .int) (by decide) (by decide)))
  have F3_9 := F3_5.other W6 (Or.inr (slot_ne (Or.inr (hw _ (List.mem_of_getElem? (i := 22) rfl))) (Or.inl (hw _ (List.mem_of_getElem? (i := 20) rfl))) (by decide) (t := .int) (t' := .int) (by decide) (by decide)))
  have K6 := K2.wr W6 (Or.inl (by simp))
  have N6 := Fr.snoc X6 N2 g_a1
  have Z6 : n0 ≤ h6.size := by rw [W6.size]; exact Z2
  refine own_st (T' := T6) (g' := (mkF m 14 #[.val (.ref a1), .val (.ref d1), .val (.int p2), .val (.int p3)] [])) (fun t9 k9 => st6 t9 k9) ?_
  refine own_st (T' := T6) (g' := (mkF m 15 #[.val (.ref a1), .val (.ref d1), .val (.int p2), .val (.int p3)] [(.ref a1)])) (fun t9 k9 => XS.aloadN X6.here hx rfl (hb hby d3_14) rfl rfl k9) ?_
  refine own_st (T' := T6) (g' := (mkF m 16 #[.val (.ref a1), .val (.ref d1), .val (.int p2), .val (.int p3)] [(.int p3), (.ref a1)])) (fun t9 k9 => XS.iloadN X6.here hx rfl (hb hby d3_15) rfl k9) ?_
  obtain ⟨T10, h10, X10, e10, W10, st10⟩ := putF X6 hx hZ hown (host := "") (Or.inl (hw _ (List.mem_of_getElem? (i := 21) rfl))) Via.refl e6 F3_9 E1_7 (Or.inr ⟨(hw _ (List.mem_of_getElem? (i := 22) rfl)), rfl, hnm⟩) (hw _ (List.mem_of_getElem? (i := 9) rfl)) (ty := .int) (by decide) rfl rfl (g := (mkF m 16 #[.val (.ref a1), .val (.ref d1), .val (.int p2), .val (.int p3)] [(.int p3), (.ref a1)])) rfl rfl (hb hby d3_16)
  have Fw10 := F3_9.same W10
  have E1_11 := E1_7.wr W10
  have Fw2_12 := Fw2_8.other W10 (Or.inr (slot_ne (Or.inr (hw _ (List.mem_of_getElem? (i := 18) rfl))) (Or.inr (hw _ (List.mem_of_getElem? (i := 22) rfl))) (by decide) (t := (.array .byte)) (t' := .int) (by decide) (by decide)))
  have Fw6_13 := Fw6.other W10 (Or.inr (slot_ne (Or.inl (hw _ (List.mem_of_getElem? (i := 20) rfl))) (Or.inr (hw _ (List.mem_of_getElem? (i := 22) rfl))) (by decide) (t := .int) (t' := .int) (by decide) (by decide)))
  have K10 := K6.wr W10 (Or.inl (by simp))
  have N10 := Fr.snoc X10 N6 g_a1
  have Z10 : n0 ≤ h10.size := by rw [W10.size]; exact Z6
  refine own_st (T' := T10) (g' := (mkF m 19 #[.val (.ref a1), .val (.ref d1), .val (.int p2), .val (.int p3)] [])) (fun t9 k9 => st10 t9 k9) ?_
  refine own_ret (v := none) hF X10 (fun _ => rfl) hlk (fun fs hr => X10.returnOut hx hret (hb hby d3_19) hr) ?_ (by decide) (by decide)
  try rw [e10]
  exact ⟨rfl, N10, K10, E1_11, Fw2_12, Fw6_13, Fw10⟩
theorem d5_0 : decode prog_7_method_3_code 0 = .ok (.aload_n 0, 1) := by decide +kernel
theorem d5_1 : decode prog_7_method_3_code 1 = .ok (.getfield 16, 3) := by decide +kernel
theorem d5_4 : decode prog_7_method_3_code 4 = .ok (.aload_n 0, 1) := by decide +kernel
theorem d5_5 : decode prog_7_method_3_code 5 = .ok (.getfield 20, 3) := by decide +kernel
theorem d5_8 : decode prog_7_method_3_code 8 = .ok (.if_icmp .ge 31, 3) := by decide +kernel
theorem d5_11 : decode prog_7_method_3_code 11 = .ok (.aload_n 0, 1) := by decide +kernel
theorem d5_12 : decode prog_7_method_3_code 12 = .ok (.getfield 12, 3) := by decide +kernel
theorem d5_15 : decode prog_7_method_3_code 15 = .ok (.aload_n 0, 1) := by decide +kernel
theorem d5_16 : decode prog_7_method_3_code 16 = .ok (.getfield 16, 3) := by decide +kernel
theorem d5_19 : decode prog_7_method_3_code 19 = .ok (.baload, 1) := by decide +kernel
theorem d5_20 : decode prog_7_method_3_code 20 = .ok (.invokestatic 23, 3) := by decide +kernel
theorem d5_23 : decode prog_7_method_3_code 23 = .ok (.ifCond .eq 16, 3) := by decide +kernel
theorem d5_26 : decode prog_7_method_3_code 26 = .ok (.aload_n 0, 1) := by decide +kernel
theorem d5_27 : decode prog_7_method_3_code 27 = .ok (.dup, 1) := by decide +kernel
theorem d5_28 : decode prog_7_method_3_code 28 = .ok (.getfield 16, 3) := by decide +kernel
theorem d5_31 : decode prog_7_method_3_code 31 = .ok (.iconst 1, 1) := by decide +kernel
theorem d5_32 : decode prog_7_method_3_code 32 = .ok (.iadd, 1) := by decide +kernel
theorem d5_33 : decode prog_7_method_3_code 33 = .ok (.putfield 16, 3) := by decide +kernel
theorem d5_36 : decode prog_7_method_3_code 36 = .ok (.goto (-36), 3) := by decide +kernel
theorem d5_39 : decode prog_7_method_3_code 39 = .ok (.aload_n 0, 1) := by decide +kernel
theorem d5_40 : decode prog_7_method_3_code 40 = .ok (.getfield 16, 3) := by decide +kernel
theorem d5_43 : decode prog_7_method_3_code 43 = .ok (.aload_n 0, 1) := by decide +kernel
theorem d5_44 : decode prog_7_method_3_code 44 = .ok (.getfield 20, 3) := by decide +kernel
theorem d5_47 : decode prog_7_method_3_code 47 = .ok (.if_icmp .ge 7, 3) := by decide +kernel
theorem d5_50 : decode prog_7_method_3_code 50 = .ok (.iconst 1, 1) := by decide +kernel
theorem d5_51 : decode prog_7_method_3_code 51 = .ok (.goto 4, 3) := by decide +kernel
theorem d5_54 : decode prog_7_method_3_code 54 = .ok (.iconst 0, 1) := by decide +kernel
theorem d5_55 : decode prog_7_method_3_code 55 = .ok (.ireturn, 1) := by decide +kernel
theorem pn_5 : plainFor (⟨"com/example/tuck/tuck/io/Words", "hasNext", "()Z"⟩ : MethodName) = true := plainFor_of_name (by first | (simp [plainName, overriddenIn]; done) | decide +kernel)
set_option maxRecDepth 65536 in
set_option maxHeartbeats 40000000 in
theorem rm5 (l : Launch) (Z : State) (a0 : Array Value) (hw : ∀ d ∈ tables_1, d.before a0 Z = true) (a1 d1 : Addr) (kc : ClassId) (vs : List Value) (xs : Nat → Int32) (f t : Nat) (h0 : Heap) (n0 : Nat) (Z0 : n0 ≤ h0.size) (E1 : Exa Z h0 a1 "com/example/tuck/tuck/io/Words") (F1 : Fld Z h0 a1 "com/example/tuck/tuck/io/Words" "line" "[B" (.ref d1)) (F2 : Fld Z h0 a1 "com/example/tuck/tuck/io/Words" "pos" "I" (.int (Int32.ofNat f))) (F3 : Fld Z h0 a1 "com/example/tuck/tuck/io/Words" "end" "I" (.int (Int32.ofNat t))) (V1 : Arv Z h0 d1 kc .byte (4 : Int32) vs (.int (0 : Int32))) (hne : d1 ≠ a1) (g_a1 : n0 ≤ a1) (hft : f ≤ t) (ht : t ≤ 4) (hv : ∀ i, i < 4 → vs.getD i (.int (0 : Int32)) = .int (xs i)) :
    own_Met l Z (⟨"com/example/tuck/tuck/io/Words", "hasNext", "()Z"⟩ : MethodName) prog_7_method_3_code 1 (some .boolean) ({ frames := 1, cells := 0, slots := 0, locals := 12 } : Room) #[(.ref a1)] h0 (fun v h L => ∃ (q : Nat) (z : Int32), v = some (.int z) ∧ Fr n0 L ∧ Keep h0 h [a1] ∧ Exa Z h a1 "com/example/tuck/tuck/io/Words" ∧ Fld Z h a1 "com/example/tuck/tuck/io/Words" "line" "[B" (.ref d1) ∧ Fld Z h a1 "com/example/tuck/tuck/io/Words" "pos" "I" (.int (Int32.ofNat q)) ∧ Fld Z h a1 "com/example/tuck/tuck/io/Words" "end" "I" (.int (Int32.ofNat t)) ∧ f ≤ q ∧ q ≤ t ∧ (∀ j, f ≤ j → j < q → own_w (xs j)) ∧ ((q = t ∧ z = 0) ∨ (q < t ∧ z = 1 ∧ ¬ own_w (xs q)))) := by
  refine own_body pn_5 ?_
  intro p e s m below meth c T0 hZ hx hby hml hown hnm hret hlk X0 e0 F hF
  have N0 := Fr.nil n0
  have K0 := Keep.refl h0 [a1]
  refine own_cast (g' := (mkF m 0 #[.val (.ref a1)] [])) (by first | rfl | simp [entryFrame, mkF, argsToLocals, Value.category]) ?_
  have lp : ∀ (k : Nat) (T1 : State) (L1 : List Loc) (h1 : Heap) (i : Nat), Stand p l e ({ frames := 1, cells := 0, slots := 0, locals := 12 } : Room) s m #[(.ref a1)] below meth c T1 L1 (0) (0) → T1.heap = h1 → Fr n0 L1 → (n0 ≤ h1.size) → (Keep h0 h1 [a1]) → (Exa Z h1 a1 "com/example/tuck/tuck/io/Words") → (Fld Z h1 a1 "com/example/tuck/tuck/io/Words" "line" "[B" (.ref d1)) → (Fld Z h1 a1 "com/example/tuck/tuck/io/Words" "pos" "I" (.int (Int32.ofNat i))) → (Fld Z h1 a1 "com/example/tuck/tuck/io/Words" "end" "I" (.int (Int32.ofNat t))) → (Arv Z h1 d1 kc .byte (4 : Int32) vs (.int (0 : Int32))) → (i + k = t) → (f ≤ i) → (∀ j, f ≤ j → j < i → own_w (xs j)) → own_Go p e below F T1 (mkF m 0 #[.val (.ref a1)] []) := by
    intro k
    induction k with
    | zero =>
      intro T1 L1 h1 i X1 e1 N1 Z1 K1 E9 Fl9 Fp9 Fe9 V9 hi hfi ha
      obtain rfl : i = t := by omega
      refine own_st (T' := T1) (g' := (mkF m 1 #[.val (.ref a1)] [(.ref a1)])) (fun t9 k9 => XS.aloadN X1.here hx rfl (hb hby d5_0) rfl rfl k9) ?_
      obtain ⟨T2, X2, e2, st2⟩ := getF X1 hx hZ hown (host := "") (Or.inl (hw _ (List.mem_of_getElem? (i := 19) rfl))) Via.refl e1 Fp9 (g := (mkF m 1 #[.val (.ref a1)] [(.ref a1)])) rfl rfl (hb hby d5_1)
      refine own_st (T' := T2) (g' := (mkF m 4 #[.val (.ref a1)] [(.int (Int32.ofNat i))])) (fun t9 k9 => st2 t9 k9) ?_
      refine own_st (T' := T2) (g' := (mkF m 5 #[.val (.ref a1)] [(.ref a1), (.int (Int32.ofNat i))])) (fun t9 k9 => XS.aloadN X2.here hx rfl (hb hby d5_4) rfl rfl k9) ?_
      obtain ⟨T3, X3, e3, st3⟩ := getF X2 hx hZ hown (host := "") (Or.inl (hw _ (List.mem_of_getElem? (i := 21) rfl))) Via.refl e2 Fe9 (g := (mkF m 5 #[.val (.ref a1)] [(.ref a1), (.int (Int32.ofNat i))])) rfl rfl (hb hby d5_5)
      refine own_st (T' := T3) (g' := (mkF m 8 #[.val (.ref a1)] [(.int (Int32.ofNat i)), (.int (Int32.ofNat i))])) (fun t9 k9 => st3 t9 k9) ?_
      refine own_st (T' := T3) (g' := (mkF m 39 #[.val (.ref a1)] [])) (fun t9 k9 => XS.icmpYes X3.here hx rfl (pc0 := 8) (pc' := 39) rfl (hb hby d5_8) rfl (flt (Int32.lt_irrefl)).2.1 (by decide) (by decide) k9) ?_
      refine own_st (T' := T3) (g' := (mkF m 40 #[.val (.ref a1)] [(.ref a1)])) (fun t9 k9 => XS.aloadN X3.here hx rfl (hb hby d5_39) rfl rfl k9) ?_
      obtain ⟨T4, X4, e4, st4⟩ := getF X3 hx hZ hown (host := "") (Or.inl (hw _ (List.mem_of_getElem? (i := 19) rfl))) Via.refl e3 Fp9 (g := (mkF m 40 #[.val (.ref a1)] [(.ref a1)])) rfl rfl (hb hby d5_40)
      refine own_st (T' := T4) (g' := (mkF m 43 #[.val (.ref a1)] [(.int (Int32.ofNat i))])) (fun t9 k9 => st4 t9 k9) ?_
      refine own_st (T' := T4) (g' := (mkF m 44 #[.val (.ref a1)] [(.ref a1), (.int (Int32.ofNat i))])) (fun t9 k9 => XS.aloadN X4.here hx rfl (hb hby d5_43) rfl rfl k9) ?_
      obtain ⟨T5, X5, e5, st5⟩ := getF X4 hx hZ hown (host := "") (Or.inl (hw _ (List.mem_of_getElem? (i := 21) rfl))) Via.refl e4 Fe9 (g := (mkF m 44 #[.val (.ref a1)] [(.ref a1), (.int (Int32.ofNat i))])) rfl rfl (hb hby d5_44)
      refine own_st (T' := T5) (g' := (mkF m 47 #[.val (.ref a1)] [(.int (Int32.ofNat i)), (.int (Int32.ofNat i))])) (fun t9 k9 => st5 t9 k9) ?_
      refine own_st (T' := T5) (g' := (mkF m 54 #[.val (.ref a1)] [])) (fun t9 k9 => XS.icmpYes X5.here hx rfl (pc0 := 47) (pc' := 54) rfl (hb hby d5_47) rfl (flt (Int32.lt_irrefl)).2.1 (by decide) (by decide) k9) ?_
      refine own_st (T' := T5) (g' := (mkF m 55 #[.val (.ref a1)] [(.int (0 : Int32))])) (fun t9 k9 => XS.iconst X5.here hx rfl (hb hby d5_54) k9) ?_
      refine own_ret (v := some (.int (0 : Int32))) hF X5 (own_some hret) hlk (fun fs hr => retN X5 hx (t := .boolean) hret (by simp) (hb hby d5_55) hr) ?_ (by decide) (by decide)
      try rw [e5]
      exact ⟨i, _, rfl, N1, K1, E9, Fl9, Fp9, Fe9, hfi, by omega, ha, Or.inl ⟨rfl, rfl⟩⟩
    | succ k ih =>
      intro T1 L1 h1 i X1 e1 N1 Z1 K1 E9 Fl9 Fp9 Fe9 V9 hi hfi ha
      obtain ⟨q1, q2, q3⟩ := own_nat (i := i) (by omega)
      refine own_st (T' := T1) (g' := (mkF m 1 #[.val (.ref a1)] [(.ref a1)])) (fun t9 k9 => XS.aloadN X1.here hx rfl (hb hby d5_0) rfl rfl k9) ?_
      obtain ⟨T6, X6, e6, st6⟩ := getF X1 hx hZ hown (host := "") (Or.inl (hw _ (List.mem_of_getElem? (i := 19) rfl))) Via.refl e1 Fp9 (g := (mkF m 1 #[.val (.ref a1)] [(.ref a1)])) rfl rfl (hb hby d5_1)
      refine own_st (T' := T6) (g' := (mkF m 4 #[.val (.ref a1)] [(.int (Int32.ofNat i))])) (fun t9 k9 => st6 t9 k9) ?_
      refine own_st (T' := T6) (g' := (mkF m 5 #[.val (.ref a1)] [(.ref a1), (.int (Int32.ofNat i))])) (fun t9 k9 => XS.aloadN X6.here hx rfl (hb hby d5_4) rfl rfl k9) ?_
      obtain ⟨T7, X7, e7, st7⟩ := getF X6 hx hZ hown (host := "") (Or.inl (hw _ (List.mem_of_getElem? (i := 21) rfl))) Via.refl e6 Fe9 (g := (mkF m 5 #[.val (.ref a1)] [(.ref a1), (.int (Int32.ofNat i))])) rfl rfl (hb hby d5_5)
      refine own_st (T' := T7) (g' := (mkF m 8 #[.val (.ref a1)] [(.int (Int32.ofNat t)), (.int (Int32.ofNat i))])) (fun t9 k9 => st7 t9 k9) ?_
      refine own_st (T' := T7) (g' := (mkF m 11 #[.val (.ref a1)] [])) (fun t9 k9 => XS.icmpNo X7.here hx rfl (hb hby d5_8) rfl (tlt (own_lt (by omega) (by omega))).2.1 k9) ?_
      refine own_st (T' := T7) (g' := (mkF m 12 #[.val (.ref a1)] [(.ref a1)])) (fun t9 k9 => XS.aloadN X7.here hx rfl (hb hby d5_11) rfl rfl k9) ?_
      obtain ⟨T8, X8, e8, st8⟩ := getF X7 hx hZ hown (host := "") (Or.inl (hw _ (List.mem_of_getElem? (i := 17) rfl))) Via.refl e7 Fl9 (g := (mkF m 12 #[.val (.ref a1)] [(.ref a1)])) rfl rfl (hb hby d5_12)
      refine own_st (T' := T8) (g' := (mkF m 15 #[.val (.ref a1)] [(.ref d1)])) (fun t9 k9 => st8 t9 k9) ?_
      refine own_st (T' := T8) (g' := (mkF m 16 #[.val (.ref a1)] [(.ref a1), (.ref d1)])) (fun t9 k9 => XS.aloadN X8.here hx rfl (hb hby d5_15) rfl rfl k9) ?_
      obtain ⟨T9, X9, e9, st9⟩ := getF X8 hx hZ hown (host := "") (Or.inl (hw _ (List.mem_of_getElem? (i := 19) rfl))) Via.refl e8 Fp9 (g := (mkF m 16 #[.val (.ref a1)] [(.ref a1), (.ref d1)])) rfl rfl (hb hby d5_16)
      refine own_st (T' := T9) (g' := (mkF m 19 #[.val (.ref a1)] [(.int (Int32.ofNat i)), (.ref d1)])) (fun t9 k9 => st9 t9 k9) ?_
      obtain ⟨clu10, Aru10, qu10, Su10, Nu10, Hu10, Gu10⟩ := (id V9)
      have hinu10 := inb_of Su10 (j := (Int32.ofNat i)) ⟨q2, q3⟩
      refine own_st (T' := T9) (g' := (mkF m 20 #[.val (.ref a1)] [(.int (xs i))])) (fun t9 k9 => X9.baloadBytes hx (j := (Int32.ofNat i)) (v := (.int (xs i))) (by rw [e9]; exact Aru10.1) (State.isArrayOf_alike hZ.alike Aru10.2.1) Aru10.2.2 hinu10 (Hu10.at hinu10 (by rw [q1]; exact hv _ (by omega))) (g := (mkF m 19 #[.val (.ref a1)] [(.int (Int32.ofNat i)), (.ref d1)])) rfl rfl (hb hby d5_19) t9 k9) ?_
      obtain ⟨_, _, ⟨T11, L11, k11, n11⟩, -, X11, ⟨Lc11, hQ11, l11, y11, z11⟩, st11⟩ := Jvm.LawKit.callS X9 hx (y := (⟨"com/example/tuck/tuck/io/Words", "isBlank", "(B)Z"⟩ : MethodName)) hown (mvT hZ (hw _ (List.mem_of_getElem? (i := 31) rfl))) (mvT hZ (hw _ (List.mem_of_getElem? (i := 32) rfl))) (mvT hZ (hw _ (List.mem_of_getElem? (i := 10) rfl))) (mvT hZ (hw _ (List.mem_of_getElem? (i := 33) rfl))) (by decide) (own_back (W := 0) (rm7 l Z a0 hw (xs i) h1 n0 Z1) hZ (hw _ (List.mem_of_getElem? (i := 33) rfl)) (hw _ (List.mem_of_getElem? (i := 10) rfl)) (by decide) (by decide)) (g := (mkF m 20 #[.val (.ref a1)] [(.int (xs i))])) rfl (by rw [hml]; rfl) (argsL := [(.int (xs i))]) (rest := []) (lenOf pd_5 rfl) rfl (by show 2 * 0 + _ ≤ _; exact Nat.le_of_eq rfl) (hb hby d5_20) (fun _ _ => ⟨rfl, e9, (Nat.le_of_ble_eq_true rfl), (Nat.le_of_ble_eq_true rfl)⟩)
      dsimp only [Pt.U, Pt.locs, Pt.cells, Pt.slots] at X11 l11 y11 z11 st11 hQ11
      subst l11 y11 z11
      obtain ⟨z11, rfl, Nq11, he11, hB11⟩ := hQ11
      have N11 := Fr.app N1 Nq11
      have e11 : T11.heap = h1 := he11
      refine own_st (T' := T11) (g' := (mkF m 23 #[.val (.ref a1)] [(.int z11)])) (fun t9 k9 => st11 t9 k9) ?_
      by_cases hz : z11 = (0 : Int32)
      · refine own_st (T' := T11) (g' := (mkF m 39 #[.val (.ref a1)] [])) (fun t9 k9 => XS.ifYes X11.here hx rfl (pc0 := 23) (pc' := 39) rfl (hb hby d5_23) rfl ((if0 _ _).trans (teq hz).1) (by decide) (by decide) k9) ?_
        refine own_st (T' := T11) (g' := (mkF m 40 #[.val (.ref a1)] [(.ref a1)])) (fun t9 k9 => XS.aloadN X11.here hx rfl (hb hby d5_39) rfl rfl k9) ?_
        obtain ⟨T12, X12, e12, st12⟩ := getF X11 hx hZ hown (host := "") (Or.inl (hw _ (List.mem_of_getElem? (i := 19) rfl))) Via.refl e11 Fp9 (g := (mkF m 40 #[.val (.ref a1)] [(.ref a1)])) rfl rfl (hb hby d5_40)
        refine own_st (T' := T12) (g' := (mkF m 43 #[.val (.ref a1)] [(.int (Int32.ofNat i))])) (fun t9 k9 => st12 t9 k9) ?_
        refine own_st (T' := T12) (g' := (mkF m 44 #[.val (.ref a1)] [(.ref a1), (.int (Int32.ofNat i))])) (fun t9 k9 => XS.aloadN X12.here hx rfl (hb hby d5_43) rfl rfl k9) ?_
        obtain ⟨T13, X13, e13, st13⟩ := getF X12 hx hZ hown (host := "") (Or.inl (hw _ (List.mem_of_getElem? (i := 21) rfl))) Via.refl e12 Fe9 (g := (mkF m 44 #[.val (.ref a1)] [(.ref a1), (.int (Int32.ofNat i))])) rfl rfl (hb hby d5_44)
        refine own_st (T' := T13) (g' := (mkF m 47 #[.val (.ref a1)] [(.int (Int32.ofNat t)), (.int (Int32.ofNat i))])) (fun t9 k9 => st13 t9 k9) ?_
        refine own_st (T' := T13) (g' := (mkF m 50 #[.val (.ref a1)] [])) (fun t9 k9 => XS.icmpNo X13.here hx rfl (hb hby d5_47) rfl (tlt (own_lt (by omega) (by omega))).2.1 k9) ?_
        refine own_st (T' := T13) (g' := (mkF m 51 #[.val (.ref a1)] [(.int (1 : Int32))])) (fun t9 k9 => XS.iconst X13.here hx rfl (hb hby d5_50) k9) ?_
        refine own_st (T' := T13) (g' := (mkF m 55 #[.val (.ref a1)] [(.int (1 : Int32))])) (fun t9 k9 => XS.goto X13.here hx rfl (pc0 := 51) (pc' := 55) rfl (hb hby d5_51) (by decide) (by decide) k9) ?_
        refine own_ret (v := some (.int (1 : Int32))) hF X13 (own_some hret) hlk (fun fs hr => retN X13 hx (t := .boolean) hret (by simp) (hb hby d5_55) hr) ?_ (by decide) (by decide)
        try rw [e13]
        exact ⟨i, _, rfl, N11, K1, E9, Fl9, Fp9, Fe9, hfi, by omega, ha, Or.inr ⟨by omega, rfl, hB11.no hz⟩⟩
      · refine own_st (T' := T11) (g' := (mkF m 26 #[.val (.ref a1)] [])) (fun t9 k9 => XS.ifNo X11.here hx rfl (hb hby d5_23) rfl ((if0 _ _).trans (feq hz).1) k9) ?_
        refine own_st (T' := T11) (g' := (mkF m 27 #[.val (.ref a1)] [(.ref a1)])) (fun t9 k9 => XS.aloadN X11.here hx rfl (hb hby d5_26) rfl rfl k9) ?_
        refine own_st (T' := T11) (g' := (mkF m 28 #[.val (.ref a1)] [(.ref a1), (.ref a1)])) (fun t9 k9 => XS.dup X11.here hx rfl (hb hby d5_27) rfl rfl k9) ?_
        obtain ⟨T14, X14, e14, st14⟩ := getF X11 hx hZ hown (host := "") (Or.inl (hw _ (List.mem_of_getElem? (i := 19) rfl))) Via.refl e11 Fp9 (g := (mkF m 28 #[.val (.ref a1)] [(.ref a1), (.ref a1)])) rfl rfl (hb hby d5_28)
        refine own_st (T' := T14) (g' := (mkF m 31 #[.val (.ref a1)] [(.int (Int32.ofNat i)), (.ref a1)])) (fun t9 k9 => st14 t9 k9) ?_
        refine own_st (T' := T14) (g' := (mkF m 32 #[.val (.ref a1)] [(.int (1 : Int32)), (.int (Int32.ofNat i)), (.ref a1)])) (fun t9 k9 => XS.iconst X14.here hx rfl (hb hby d5_31) k9) ?_
        refine own_st (T' := T14) (g' := (mkF m 33 #[.val (.ref a1)] [(.int ((Int32.ofNat i) + (1 : Int32))), (.ref a1)])) (fun t9 k9 => XS.iadd X14.here hx rfl (hb hby d5_32) rfl k9) ?_
        obtain ⟨T15, h15, X15, e15, W15, st15⟩ := putF X14 hx hZ hown (host := "") (Or.inl (hw _ (List.mem_of_getElem? (i := 19) rfl))) Via.refl e14 Fp9 E9 (Or.inl (hw _ (List.mem_of_getElem? (i := 20) rfl))) (hw _ (List.mem_of_getElem? (i := 9) rfl)) (ty := .int) (by decide) rfl rfl (g := (mkF m 33 #[.val (.ref a1)] [(.int ((Int32.ofNat i) + (1 : Int32))), (.ref a1)])) rfl rfl (hb hby d5_33)
        have Fw15 := Fp9.same W15
        have E9_16 := E9.wr W15
        have Fl9_17 := Fl9.other W15 (Or.inr (slot_ne (Or.inr (hw _ (List.mem_of_getElem? (i := 18) rfl))) (Or.inl (hw _ (List.mem_of_getElem? (i := 20) rfl))) (by decide) (t := (.array .byte)) (t' := .int) (by decide) (by decide)))
        have Fe9_18 := Fe9.other W15 (Or.inr (slot_ne (Or.inr (hw _ (List.mem_of_getElem? (i := 22) rfl))) (Or.inl (hw _ (List.mem_of_getElem? (i := 20) rfl))) (by decide) (t := .int) (t' := .int) (by decide) (by decide)))
        have V9_19 := V9.other W15 hne
        have K15 := K1.wr W15 (Or.inl (by simp))
        have N15 := Fr.snoc X15 N11 g_a1
        have Z15 : n0 ≤ h15.size := by rw [W15.size]; exact Z1
        refine own_st (T' := T15) (g' := (mkF m 36 #[.val (.ref a1)] [])) (fun t9 k9 => st15 t9 k9) ?_
        rw [own_one i] at Fw15
        refine own_st (T' := T15) (g' := (mkF m 0 #[.val (.ref a1)] [])) (fun t9 k9 => XS.goto X15.here hx rfl (pc0 := 36) (pc' := 0) rfl (hb hby d5_36) (by decide) (by decide) k9) ?_
        exact ih _ _ _ (i + 1) X15 e15 N15 Z15 K15 E9_16 Fl9_17 Fw15 Fe9_18 V9_19 (by omega) (by omega) (fun j j1 j2 => (Nat.lt_succ_iff_lt_or_eq.mp j2).elim (ha j j1) (fun q => q ▸ hB11.yes hz))
  exact lp (t - f) _ _ _ f X0 e0 N0 Z0 K0 E1 F1 F2 F3 V1 (by omega) (Nat.le_refl f) (fun j j1 j2 => absurd j2 (by omega))
theorem d8_0 : decode prog_7_method_4_code 0 = .ok (.aload_n 0, 1) := by decide +kernel
theorem d8_1 : decode prog_7_method_4_code 1 = .ok (.getfield 12, 3) := by decide +kernel
theorem d8_4 : decode prog_7_method_4_code 4 = .ok (.aload_n 0, 1) := by decide +kernel
theorem d8_5 : decode prog_7_method_4_code 5 = .ok (.getfield 16, 3) := by decide +kernel
theorem d8_8 : decode prog_7_method_4_code 8 = .ok (.baload, 1) := by decide +kernel
theorem d8_9 : decode prog_7_method_4_code 9 = .ok (.ireturn, 1) := by decide +kernel
theorem pn_8 : plainFor (⟨"com/example/tuck/tuck/io/Words", "peek", "()B"⟩ : MethodName) = true := plainFor_of_name (by first | (simp [plainName, overriddenIn]; done) | decide +kernel)
set_option maxRecDepth 65536 in
set_option maxHeartbeats 40000000 in
theorem rm8 (l : Launch) (Z : State) (a0 : Array Value) (hw : ∀ d ∈ tables_1, d.before a0 Z = true) (a1 d1 : Addr) (kc : ClassId) (vs : List Value) (x : Int32) (q : Nat) (h0 : Heap) (n0 : Nat) (Z0 : n0 ≤ h0.size) (F1 : Fld Z h0 a1 "com/example/tuck/tuck/io/Words" "line" "[B" (.ref d1)) (F2 : Fld Z h0 a1 "com/example/tuck/tuck/io/Words" "pos" "I" (.int (Int32.ofNat q))) (V1 : Arv Z h0 d1 kc .byte (4 : Int32) vs (.int (0 : Int32))) (hq : q < 4) (hv : vs.getD q (.int (0 : Int32)) = .int x) (hx8 : x.toInt8.toInt32 = x) :
    own_Met l Z (⟨"com/example/tuck/tuck/io/Words", "peek", "()B"⟩ : MethodName) prog_7_method_4_code 1 (some .byte) ({ frames := 0, cells := 0, slots := 0, locals := 0 } : Room) #[(.ref a1)] h0 (fun v h L => v = some (.int x) ∧ Fr n0 L ∧ h = h0) := by
  refine own_body pn_8 ?_
  intro p e s m below meth c T0 hZ hx hby hml hown hnm hret hlk X0 e0 F hF
  have N0 := Fr.nil n0
  have K0 := Keep.refl h0 []
  refine own_cast (g' := (mkF m 0 #[.val (.ref a1)] [])) (by first | rfl | simp [entryFrame, mkF, argsToLocals, Value.category]) ?_
  obtain ⟨q1, q2, q3⟩ := own_nat hq
  refine own_st (T' := T0) (g' := (mkF m 1 #[.val (.ref a1)] [(.ref a1)])) (fun t9 k9 => XS.aloadN X0.here hx rfl (hb hby d8_0) rfl rfl k9) ?_
  obtain ⟨T1, X1, e1, st1⟩ := getF X0 hx hZ hown (host := "") (Or.inl (hw _ (List.mem_of_getElem? (i := 17) rfl))) Via.refl e0 F1 (g := (mkF m 1 #[.val (.ref a1)] [(.ref a1)])) rfl rfl (hb hby d8_1)
  refine own_st (T' := T1) (g' := (mkF m 4 #[.val (.ref a1)] [(.ref d1)])) (fun t9 k9 => st1 t9 k9) ?_
  refine own_st (T' := T1) (g' := (mkF m 5 #[.val (.ref a1)] [(.ref a1), (.ref d1)])) (fun t9 k9 => XS.aloadN X1.here hx rfl (hb hby d8_4) rfl rfl k9) ?_
  obtain ⟨T2, X2, e2, st2⟩ := getF X1 hx hZ hown (host := "") (Or.inl (hw _ (List.mem_of_getElem? (i := 19) rfl))) Via.refl e1 F2 (g := (mkF m 5 #[.val (.ref a1)] [(.ref a1), (.ref d1)])) rfl rfl (hb hby d8_5)
  refine own_st (T' := T2) (g' := (mkF m 8 #[.val (.ref a1)] [(.int (Int32.ofNat q)), (.ref d1)])) (fun t9 k9 => st2 t9 k9) ?_
  obtain ⟨clu3, Aru3, qu3, Su3, Nu3, Hu3, Gu3⟩ := (id V1)
  have hinu3 := inb_of Su3 (j := (Int32.ofNat q)) ⟨q2, q3⟩
  refine own_st (T' := T2) (g' := (mkF m 9 #[.val (.ref a1)] [(.int x)])) (fun t9 k9 => X2.baloadBytes hx (j := (Int32.ofNat q)) (v := (.int x)) (by rw [e2]; exact Aru3.1) (State.isArrayOf_alike hZ.alike Aru3.2.1) Aru3.2.2 hinu3 (Hu3.at hinu3 (by rw [q1]; exact hv)) (g := (mkF m 8 #[.val (.ref a1)] [(.int (Int32.ofNat q)), (.ref d1)])) rfl rfl (hb hby d8_8) t9 k9) ?_
  refine own_ret (v := some (.int (nar .byte x))) hF X2 (own_some hret) hlk (fun fs hr => retN X2 hx (t := .byte) hret (by simp) (hb hby d8_9) hr) ?_ (by decide) (by decide)
  try rw [e2]
  exact ⟨by rw [show nar .byte x = x from hx8], N0, rfl⟩
theorem pn_0 : plainFor (⟨"com/example/tuck/tuck/io/WordsHasNextPinLaw", "law", "(IIIII)Z"⟩ : MethodName) = true := plainFor_of_name (by first | (simp [plainName, overriddenIn]; done) | decide +kernel)
set_option maxRecDepth 65536 in
set_option maxHeartbeats 40000000 in
theorem rm0 (l : Launch) (Z : State) (a0 : Array Value) (hw : ∀ d ∈ tables_1, d.before a0 Z = true) (p1 p2 p3 p4 p5 : Int32) (h0 : Heap) (n0 : Nat) (Z0 : n0 ≤ h0.size)  :
    own_Met l Z x code maxLocals ret room_1 #[(.int p1), (.int p2), (.int p3), (.int p4), (.int p5)] h0 (fun v h L => v = some (.int (1 : Int32)) ∧ Fr n0 L) := by
  refine own_body pn_0 ?_
  intro p e s m below meth c T0 hZ hx hby hml hown hnm hret hlk X0 e0 F hF
  have N0 := Fr.nil n0
  have K0 := Keep.refl h0 []
  refine own_cast (g' := (mkF m 0 #[.val (.int p1), .val (.int p2), .val (.int p3), .val (.int p4), .val (.int p5), .unset, .unset, .unset, .unset, .unset, .unset, .unset, .unset, .unset, .unset, .unset] [])) (by first | rfl | simp [entryFrame, mkF, argsToLocals, Value.category, maxLocals]) ?_
  refine own_st (T' := T0) (g' := (mkF m 1 #[.val (.int p1), .val (.int p2), .val (.int p3), .val (.int p4), .val (.int p5), .unset, .unset, .unset, .unset, .unset, .unset, .unset, .unset, .unset, .unset, .unset] [(.int p1)])) (fun t9 k9 => XS.iloadN X0.here hx rfl (hb hby at_0) rfl k9) ?_
  obtain ⟨_, _, ⟨T1, L1, k1, n1⟩, -, X1, ⟨Lc1, hQ1, l1, y1, z1⟩, st1⟩ := Jvm.LawKit.callS X0 hx (y := (⟨"com/example/tuck/tuck/io/WordsHasNextPinLaw", "mk", "(I)B"⟩ : MethodName)) hown (mvT hZ (hw _ (List.mem_of_getElem? (i := 0) rfl))) (mvT hZ (hw _ (List.mem_of_getElem? (i := 1) rfl))) (mvT hZ (hw _ (List.mem_of_getElem? (i := 2) rfl))) (mvT hZ (hw _ (List.mem_of_getElem? (i := 3) rfl))) (by decide) (own_back (W := 0) (rm1 l Z a0 hw p1 h0 n0 Z0) hZ (hw _ (List.mem_of_getElem? (i := 3) rfl)) (hw _ (List.mem_of_getElem? (i := 2) rfl)) (by decide) (by decide)) (g := (mkF m 1 #[.val (.int p1), .val (.int p2), .val (.int p3), .val (.int p4), .val (.int p5), .unset, .unset, .unset, .unset, .unset, .unset, .unset, .unset, .unset, .unset, .unset] [(.int p1)])) rfl (by rw [hml]; rfl) (argsL := [(.int p1)]) (rest := []) (lenOf pd_0 rfl) rfl (by show 2 * 0 + _ ≤ _; exact Nat.le_of_eq rfl) (hb hby at_1) (fun _ _ => ⟨rfl, e0, (Nat.le_of_ble_eq_true rfl), (Nat.le_of_ble_eq_true rfl)⟩)
  dsimp only [Pt.U, Pt.locs, Pt.cells, Pt.slots] at X1 l1 y1 z1 st1 hQ1
  subst l1 y1 z1
  obtain ⟨x1, rfl, Nq1, he1, hb1⟩ := hQ1
  have N1 := Fr.app N0 Nq1
  have e1 : T1.heap = h0 := he1
  refine own_st (T' := T1) (g' := (mkF m 4 #[.val (.int p1), .val (.int p2), .val (.int p3), .val (.int p4), .val (.int p5), .unset, .unset, .unset, .unset, .unset, .unset, .unset, .unset, .unset, .unset, .unset] [(.int x1)])) (fun t9 k9 => st1 t9 k9) ?_
  refine own_st (T' := T1) (g' := (mkF m 6 #[.val (.int p1), .val (.int p2), .val (.int p3), .val (.int p4), .val (.int p5), .val (.int x1), .unset, .unset, .unset, .unset, .unset, .unset, .unset, .unset, .unset, .unset] [])) (fun t9 k9 => XS.istore X1.here hx rfl (hb hby at_4) rfl (l' := #[.val (.int p1), .val (.int p2), .val (.int p3), .val (.int p4), .val (.int p5), .val (.int x1), .unset, .unset, .unset, .unset, .unset, .unset, .unset, .unset, .unset, .unset]) rfl k9) ?_
  refine own_st (T' := T1) (g' := (mkF m 7 #[.val (.int p1), .val (.int p2), .val (.int p3), .val (.int p4), .val (.int p5), .val (.int x1), .unset, .unset, .unset, .unset, .unset, .unset, .unset, .unset, .unset, .unset] [(.int p2)])) (fun t9 k9 => XS.iloadN X1.here hx rfl (hb hby at_6) rfl k9) ?_
  obtain ⟨_, _, ⟨T2, L2, k2, n2⟩, -, X2, ⟨Lc2, hQ2, l2, y2, z2⟩, st2⟩ := Jvm.LawKit.callS X1 hx (y := (⟨"com/example/tuck/tuck/io/WordsHasNextPinLaw", "mk", "(I)B"⟩ : MethodName)) hown (mvT hZ (hw _ (List.mem_of_getElem? (i := 0) rfl))) (mvT hZ (hw _ (List.mem_of_getElem? (i := 1) rfl))) (mvT hZ (hw _ (List.mem_of_getElem? (i := 2) rfl))) (mvT hZ (hw _ (List.mem_of_getElem? (i := 3) rfl))) (by decide) (own_back (W := 0) (rm1 l Z a0 hw p2 h0 n0 Z0) hZ (hw _ (List.mem_of_getElem? (i := 3) rfl)) (hw _ (List.mem_of_getElem? (i := 2) rfl)) (by decide) (by decide)) (g := (mkF m 7 #[.val (.int p1), .val (.int p2), .val (.int p3), .val (.int p4), .val (.int p5), .val (.int x1), .unset, .unset, .unset, .unset, .unset, .unset, .unset, .unset, .unset, .unset] [(.int p2)])) rfl (by rw [hml]; rfl) (argsL := [(.int p2)]) (rest := []) (lenOf pd_0 rfl) rfl (by show 2 * 0 + _ ≤ _; exact Nat.le_of_eq rfl) (hb hby at_7) (fun _ _ => ⟨rfl, e1, (Nat.le_of_ble_eq_true rfl), (Nat.le_of_ble_eq_true rfl)⟩)
  dsimp only [Pt.U, Pt.locs, Pt.cells, Pt.slots] at X2 l2 y2 z2 st2 hQ2
  subst l2 y2 z2
  obtain ⟨x2, rfl, Nq2, he2, hb2⟩ := hQ2
  have N2 := Fr.app N1 Nq2
  have e2 : T2.heap = h0 := he2
  refine own_st (T' := T2) (g' := (mkF m 10 #[.val (.int p1), .val (.int p2), .val (.int p3), .val (.int p4), .val (.int p5), .val (.int x1), .unset, .unset, .unset, .unset, .unset, .unset, .unset, .unset, .unset, .unset] [(.int x2)])) (fun t9 k9 => st2 t9 k9) ?_
  refine own_st (T' := T2) (g' := (mkF m 12 #[.val (.int p1), .val (.int p2), .val (.int p3), .val (.int p4), .val (.int p5), .val (.int x1), .val (.int x2), .unset, .unset, .unset, .unset, .unset, .unset, .unset, .unset, .unset] [])) (fun t9 k9 => XS.istore X2.here hx rfl (hb hby at_10) rfl (l' := #[.val (.int p1), .val (.int p2), .val (.int p3), .val (.int p4), .val (.int p5), .val (.int x1), .val (.int x2), .unset, .unset, .unset, .unset, .unset, .unset, .unset, .unset, .unset]) rfl k9) ?_
  refine own_st (T' := T2) (g' := (mkF m 13 #[.val (.int p1), .val (.int p2), .val (.int p3), .val (.int p4), .val (.int p5), .val (.int x1), .val (.int x2), .unset, .unset, .unset, .unset, .unset, .unset, .unset, .unset, .unset] [(.int p3)])) (fun t9 k9 => XS.iloadN X2.here hx rfl (hb hby at_12) rfl k9) ?_
  obtain ⟨_, _, ⟨T3, L3, k3, n3⟩, -, X3, ⟨Lc3, hQ3, l3, y3, z3⟩, st3⟩ := Jvm.LawKit.callS X2 hx (y := (⟨"com/example/tuck/tuck/io/WordsHasNextPinLaw", "mk", "(I)B"⟩ : MethodName)) hown (mvT hZ (hw _ (List.mem_of_getElem? (i := 0) rfl))) (mvT hZ (hw _ (List.mem_of_getElem? (i := 1) rfl))) (mvT hZ (hw _ (List.mem_of_getElem? (i := 2) rfl))) (mvT hZ (hw _ (List.mem_of_getElem? (i := 3) rfl))) (by decide) (own_back (W := 0) (rm1 l Z a0 hw p3 h0 n0 Z0) hZ (hw _ (List.mem_of_getElem? (i := 3) rfl)) (hw _ (List.mem_of_getElem? (i := 2) rfl)) (by decide) (by decide)) (g := (mkF m 13 #[.val (.int p1), .val (.int p2), .val (.int p3), .val (.int p4), .val (.int p5), .val (.int x1), .val (.int x2), .unset, .unset, .unset, .unset, .unset, .unset, .unset, .unset, .unset] [(.int p3)])) rfl (by rw [hml]; rfl) (argsL := [(.int p3)]) (rest := []) (lenOf pd_0 rfl) rfl (by show 2 * 0 + _ ≤ _; exact Nat.le_of_eq rfl) (hb hby at_13) (fun _ _ => ⟨rfl, e2, (Nat.le_of_ble_eq_true rfl), (Nat.le_of_ble_eq_true rfl)⟩)
  dsimp only [Pt.U, Pt.locs, Pt.cells, Pt.slots] at X3 l3 y3 z3 st3 hQ3
  subst l3 y3 z3
  obtain ⟨x3, rfl, Nq3, he3, hb3⟩ := hQ3
  have N3 := Fr.app N2 Nq3
  have e3 : T3.heap = h0 := he3
  refine own_st (T' := T3) (g' := (mkF m 16 #[.val (.int p1), .val (.int p2), .val (.int p3), .val (.int p4), .val (.int p5), .val (.int x1), .val (.int x2), .unset, .unset, .unset, .unset, .unset, .unset, .unset, .unset, .unset] [(.int x3)])) (fun t9 k9 => st3 t9 k9) ?_
  refine own_st (T' := T3) (g' := (mkF m 18 #[.val (.int p1), .val (.int p2), .val (.int p3), .val (.int p4), .val (.int p5), .val (.int x1), .val (.int x2), .val (.int x3), .unset, .unset, .unset, .unset, .unset, .unset, .unset, .unset] [])) (fun t9 k9 => XS.istore X3.here hx rfl (hb hby at_16) rfl (l' := #[.val (.int p1), .val (.int p2), .val (.int p3), .val (.int p4), .val (.int p5), .val (.int x1), .val (.int x2), .val (.int x3), .unset, .unset, .unset, .unset, .unset, .unset, .unset, .unset]) rfl k9) ?_
  refine own_st (T' := T3) (g' := (mkF m 19 #[.val (.int p1), .val (.int p2), .val (.int p3), .val (.int p4), .val (.int p5), .val (.int x1), .val (.int x2), .val (.int x3), .unset, .unset, .unset, .unset, .unset, .unset, .unset, .unset] [(.int p4)])) (fun t9 k9 => XS.iloadN X3.here hx rfl (hb hby at_18) rfl k9) ?_
  obtain ⟨_, _, ⟨T4, L4, k4, n4⟩, -, X4, ⟨Lc4, hQ4, l4, y4, z4⟩, st4⟩ := Jvm.LawKit.callS X3 hx (y := (⟨"com/example/tuck/tuck/io/WordsHasNextPinLaw", "mk", "(I)B"⟩ : MethodName)) hown (mvT hZ (hw _ (List.mem_of_getElem? (i := 0) rfl))) (mvT hZ (hw _ (List.mem_of_getElem? (i := 1) rfl))) (mvT hZ (hw _ (List.mem_of_getElem? (i := 2) rfl))) (mvT hZ (hw _ (List.mem_of_getElem? (i := 3) rfl))) (by decide) (own_back (W := 0) (rm1 l Z a0 hw p4 h0 n0 Z0) hZ (hw _ (List.mem_of_getElem? (i := 3) rfl)) (hw _ (List.mem_of_getElem? (i := 2) rfl)) (by decide) (by decide)) (g := (mkF m 19 #[.val (.int p1), .val (.int p2), .val (.int p3), .val (.int p4), .val (.int p5), .val (.int x1), .val (.int x2), .val (.int x3), .unset, .unset, .unset, .unset, .unset, .unset, .unset, .unset] [(.int p4)])) rfl (by rw [hml]; rfl) (argsL := [(.int p4)]) (rest := []) (lenOf pd_0 rfl) rfl (by show 2 * 0 + _ ≤ _; exact Nat.le_of_eq rfl) (hb hby at_19) (fun _ _ => ⟨rfl, e3, (Nat.le_of_ble_eq_true rfl), (Nat.le_of_ble_eq_true rfl)⟩)
  dsimp only [Pt.U, Pt.locs, Pt.cells, Pt.slots] at X4 l4 y4 z4 st4 hQ4
  subst l4 y4 z4
  obtain ⟨x4, rfl, Nq4, he4, hb4⟩ := hQ4
  have N4 := Fr.app N3 Nq4
  have e4 : T4.heap = h0 := he4
  refine own_st (T' := T4) (g' := (mkF m 22 #[.val (.int p1), .val (.int p2), .val (.int p3), .val (.int p4), .val (.int p5), .val (.int x1), .val (.int x2), .val (.int x3), .unset, .unset, .unset, .unset, .unset, .unset, .unset, .unset] [(.int x4)])) (fun t9 k9 => st4 t9 k9) ?_
  refine own_st (T' := T4) (g' := (mkF m 24 #[.val (.int p1), .val (.int p2), .val (.int p3), .val (.int p4), .val (.int p5), .val (.int x1), .val (.int x2), .val (.int x3), .val (.int x4), .unset, .unset, .unset, .unset, .unset, .unset, .unset] [])) (fun t9 k9 => XS.istore X4.here hx rfl (hb hby at_22) rfl (l' := #[.val (.int p1), .val (.int p2), .val (.int p3), .val (.int p4), .val (.int p5), .val (.int x1), .val (.int x2), .val (.int x3), .val (.int x4), .unset, .unset, .unset, .unset, .unset, .unset, .unset]) rfl k9) ?_
  refine own_st (T' := T4) (g' := (mkF m 25 #[.val (.int p1), .val (.int p2), .val (.int p3), .val (.int p4), .val (.int p5), .val (.int x1), .val (.int x2), .val (.int x3), .val (.int x4), .unset, .unset, .unset, .unset, .unset, .unset, .unset] [(.int (4 : Int32))])) (fun t9 k9 => XS.iconst X4.here hx rfl (hb hby at_24) k9) ?_
  obtain ⟨T5, h5, k5, X5, e5, E5, A5, st5⟩ := newP X4 hx hZ (hw _ (List.mem_of_getElem? (i := 4) rfl)) e4 (g := (mkF m 25 #[.val (.int p1), .val (.int p2), .val (.int p3), .val (.int p4), .val (.int p5), .val (.int x1), .val (.int x2), .val (.int x3), .val (.int x4), .unset, .unset, .unset, .unset, .unset, .unset, .unset] [(.int (4 : Int32))])) rfl (hb hby at_25) rfl (by decide) (cap := 4) (by decide) (by decide) (by decide) (by decide)
  obtain ⟨b5, gb5⟩ : ∃ z, z = h0.size := ⟨_, rfl⟩
  have g_b5 : n0 ≤ b5 := gb5 ▸ Z0
  have sz_b5 : h0.size ≤ b5 := gb5 ▸ K0.1
  rw [← gb5] at A5 st5
  have K5 := K0.ext E5
  have Z5 : n0 ≤ h5.size := Nat.le_trans Z0 E5.1
  have V_b5 : Arv Z h5 b5 k5 .byte (4 : Int32) [(.int (0 : Int32)), (.int (0 : Int32)), (.int (0 : Int32)), (.int (0 : Int32))] (.int (0 : Int32)) := (Arv.new A5 (by decide)).pad (pad_rep [] (.int (0 : Int32)) 4)
  refine own_st (T' := T5) (g' := (mkF m 27 #[.val (.int p1), .val (.int p2), .val (.int p3), .val (.int p4), .val (.int p5), .val (.int x1), .val (.int x2), .val (.int x3), .val (.int x4), .unset, .unset, .unset, .unset, .unset, .unset, .unset] [(.ref b5)])) (fun t9 k9 => st5 t9 k9) ?_
  refine own_st (T' := T5) (g' := (mkF m 28 #[.val (.int p1), .val (.int p2), .val (.int p3), .val (.int p4), .val (.int p5), .val (.int x1), .val (.int x2), .val (.int x3), .val (.int x4), .unset, .unset, .unset, .unset, .unset, .unset, .unset] [(.ref b5), (.ref b5)])) (fun t9 k9 => XS.dup X5.here hx rfl (hb hby at_27) rfl rfl k9) ?_
  refine own_st (T' := T5) (g' := (mkF m 29 #[.val (.int p1), .val (.int p2), .val (.int p3), .val (.int p4), .val (.int p5), .val (.int x1), .val (.int x2), .val (.int x3), .val (.int x4), .unset, .unset, .unset, .unset, .unset, .unset, .unset] [(.int (0 : Int32)), (.ref b5), (.ref b5)])) (fun t9 k9 => XS.iconst X5.here hx rfl (hb hby at_28) k9) ?_
  refine own_st (T' := T5) (g' := (mkF m 31 #[.val (.int p1), .val (.int p2), .val (.int p3), .val (.int p4), .val (.int p5), .val (.int x1), .val (.int x2), .val (.int x3), .val (.int x4), .unset, .unset, .unset, .unset, .unset, .unset, .unset] [(.int x1), (.int (0 : Int32)), (.ref b5), (.ref b5)])) (fun t9 k9 => XS.iload X5.here hx rfl (hb hby at_29) rfl k9) ?_
  obtain ⟨clu6, Aru6, qu6, Su6, Nu6, Hu6, Gu6⟩ := (id V_b5)
  obtain ⟨T7, h7, X7, e7, W7, st7⟩ := stB X5 hx hZ e5 Aru6 (j := (0 : Int32)) (inb_of Su6 ⟨by decide, by decide⟩) (g := (mkF m 31 #[.val (.int p1), .val (.int p2), .val (.int p3), .val (.int p4), .val (.int p5), .val (.int x1), .val (.int x2), .val (.int x3), .val (.int x4), .unset, .unset, .unset, .unset, .unset, .unset, .unset] [(.int x1), (.int (0 : Int32)), (.ref b5), (.ref b5)])) rfl rfl (hb hby at_31)
  have V7 := Arv.set Aru6 qu6 Su6 Nu6 Hu6 Gu6 (fits_nar_byte _) W7 0 rfl (Nat.le_of_ble_eq_true rfl)
  have K7 := K5.wr W7 (Or.inr sz_b5)
  have N7 := Fr.snoc X7 N4 g_b5
  have Z7 : n0 ≤ h7.size := by rw [W7.size]; exact Z5
  refine own_st (T' := T7) (g' := (mkF m 32 #[.val (.int p1), .val (.int p2), .val (.int p3), .val (.int p4), .val (.int p5), .val (.int x1), .val (.int x2), .val (.int x3), .val (.int x4), .unset, .unset, .unset, .unset, .unset, .unset, .unset] [(.ref b5)])) (fun t9 k9 => st7 t9 k9) ?_
  refine own_st (T' := T7) (g' := (mkF m 33 #[.val (.int p1), .val (.int p2), .val (.int p3), .val (.int p4), .val (.int p5), .val (.int x1), .val (.int x2), .val (.int x3), .val (.int x4), .unset, .unset, .unset, .unset, .unset, .unset, .unset] [(.ref b5), (.ref b5)])) (fun t9 k9 => XS.dup X7.here hx rfl (hb hby at_32) rfl rfl k9) ?_
  refine own_st (T' := T7) (g' := (mkF m 34 #[.val (.int p1), .val (.int p2), .val (.int p3), .val (.int p4), .val (.int p5), .val (.int x1), .val (.int x2), .val (.int x3), .val (.int x4), .unset, .unset, .unset, .unset, .unset, .unset, .unset] [(.int (1 : Int32)), (.ref b5), (.ref b5)])) (fun t9 k9 => XS.iconst X7.here hx rfl (hb hby at_33) k9) ?_
  refine own_st (T' := T7) (g' := (mkF m 36 #[.val (.int p1), .val (.int p2), .val (.int p3), .val (.int p4), .val (.int p5), .val (.int x1), .val (.int x2), .val (.int x3), .val (.int x4), .unset, .unset, .unset, .unset, .unset, .unset, .unset] [(.int x2), (.int (1 : Int32)), (.ref b5), (.ref b5)])) (fun t9 k9 => XS.iload X7.here hx rfl (hb hby at_34) rfl k9) ?_
  obtain ⟨clu8, Aru8, qu8, Su8, Nu8, Hu8, Gu8⟩ := (id V7)
  obtain ⟨T9, h9, X9, e9, W9, st9⟩ := stB X7 hx hZ e7 Aru8 (j := (1 : Int32)) (inb_of Su8 ⟨by decide, by decide⟩) (g := (mkF m 36 #[.val (.int p1), .val (.int p2), .val (.int p3), .val (.int p4), .val (.int p5), .val (.int x1), .val (.int x2), .val (.int x3), .val (.int x4), .unset, .unset, .unset, .unset, .unset, .unset, .unset] [(.int x2), (.int (1 : Int32)), (.ref b5), (.ref b5)])) rfl rfl (hb hby at_36)
  have V9 := Arv.set Aru8 qu8 Su8 Nu8 Hu8 Gu8 (fits_nar_byte _) W9 1 rfl (Nat.le_of_ble_eq_true rfl)
  have K9 := K7.wr W9 (Or.inr sz_b5)
  have N9 := Fr.snoc X9 N7 g_b5
  have Z9 : n0 ≤ h9.size := by rw [W9.size]; exact Z7
  refine own_st (T' := T9) (g' := (mkF m 37 #[.val (.int p1), .val (.int p2), .val (.int p3), .val (.int p4), .val (.int p5), .val (.int x1), .val (.int x2), .val (.int x3), .val (.int x4), .unset, .unset, .unset, .unset, .unset, .unset, .unset] [(.ref b5)])) (fun t9 k9 => st9 t9 k9) ?_
  refine own_st (T' := T9) (g' := (mkF m 38 #[.val (.int p1), .val (.int p2), .val (.int p3), .val (.int p4), .val (.int p5), .val (.int x1), .val (.int x2), .val (.int x3), .val (.int x4), .unset, .unset, .unset, .unset, .unset, .unset, .unset] [(.ref b5), (.ref b5)])) (fun t9 k9 => XS.dup X9.here hx rfl (hb hby at_37) rfl rfl k9) ?_
  refine own_st (T' := T9) (g' := (mkF m 39 #[.val (.int p1), .val (.int p2), .val (.int p3), .val (.int p4), .val (.int p5), .val (.int x1), .val (.int x2), .val (.int x3), .val (.int x4), .unset, .unset, .unset, .unset, .unset, .unset, .unset] [(.int (2 : Int32)), (.ref b5), (.ref b5)])) (fun t9 k9 => XS.iconst X9.here hx rfl (hb hby at_38) k9) ?_
  refine own_st (T' := T9) (g' := (mkF m 41 #[.val (.int p1), .val (.int p2), .val (.int p3), .val (.int p4), .val (.int p5), .val (.int x1), .val (.int x2), .val (.int x3), .val (.int x4), .unset, .unset, .unset, .unset, .unset, .unset, .unset] [(.int x3), (.int (2 : Int32)), (.ref b5), (.ref b5)])) (fun t9 k9 => XS.iload X9.here hx rfl (hb hby at_39) rfl k9) ?_
  obtain ⟨clu10, Aru10, qu10, Su10, Nu10, Hu10, Gu10⟩ := (id V9)
  obtain ⟨T11, h11, X11, e11, W11, st11⟩ := stB X9 hx hZ e9 Aru10 (j := (2 : Int32)) (inb_of Su10 ⟨by decide, by decide⟩) (g := (mkF m 41 #[.val (.int p1), .val (.int p2), .val (.int p3), .val (.int p4), .val (.int p5), .val (.int x1), .val (.int x2), .val (.int x3), .val (.int x4), .unset, .unset, .unset, .unset, .unset, .unset, .unset] [(.int x3), (.int (2 : Int32)), (.ref b5), (.ref b5)])) rfl rfl (hb hby at_41)
  have V11 := Arv.set Aru10 qu10 Su10 Nu10 Hu10 Gu10 (fits_nar_byte _) W11 2 rfl (Nat.le_of_ble_eq_true rfl)
  have K11 := K9.wr W11 (Or.inr sz_b5)
  have N11 := Fr.snoc X11 N9 g_b5
  have Z11 : n0 ≤ h11.size := by rw [W11.size]; exact Z9
  refine own_st (T' := T11) (g' := (mkF m 42 #[.val (.int p1), .val (.int p2), .val (.int p3), .val (.int p4), .val (.int p5), .val (.int x1), .val (.int x2), .val (.int x3), .val (.int x4), .unset, .unset, .unset, .unset, .unset, .unset, .unset] [(.ref b5)])) (fun t9 k9 => st11 t9 k9) ?_
  refine own_st (T' := T11) (g' := (mkF m 43 #[.val (.int p1), .val (.int p2), .val (.int p3), .val (.int p4), .val (.int p5), .val (.int x1), .val (.int x2), .val (.int x3), .val (.int x4), .unset, .unset, .unset, .unset, .unset, .unset, .unset] [(.ref b5), (.ref b5)])) (fun t9 k9 => XS.dup X11.here hx rfl (hb hby at_42) rfl rfl k9) ?_
  refine own_st (T' := T11) (g' := (mkF m 44 #[.val (.int p1), .val (.int p2), .val (.int p3), .val (.int p4), .val (.int p5), .val (.int x1), .val (.int x2), .val (.int x3), .val (.int x4), .unset, .unset, .unset, .unset, .unset, .unset, .unset] [(.int (3 : Int32)), (.ref b5), (.ref b5)])) (fun t9 k9 => XS.iconst X11.here hx rfl (hb hby at_43) k9) ?_
  refine own_st (T' := T11) (g' := (mkF m 46 #[.val (.int p1), .val (.int p2), .val (.int p3), .val (.int p4), .val (.int p5), .val (.int x1), .val (.int x2), .val (.int x3), .val (.int x4), .unset, .unset, .unset, .unset, .unset, .unset, .unset] [(.int x4), (.int (3 : Int32)), (.ref b5), (.ref b5)])) (fun t9 k9 => XS.iload X11.here hx rfl (hb hby at_44) rfl k9) ?_
  obtain ⟨clu12, Aru12, qu12, Su12, Nu12, Hu12, Gu12⟩ := (id V11)
  obtain ⟨T13, h13, X13, e13, W13, st13⟩ := stB X11 hx hZ e11 Aru12 (j := (3 : Int32)) (inb_of Su12 ⟨by decide, by decide⟩) (g := (mkF m 46 #[.val (.int p1), .val (.int p2), .val (.int p3), .val (.int p4), .val (.int p5), .val (.int x1), .val (.int x2), .val (.int x3), .val (.int x4), .unset, .unset, .unset, .unset, .unset, .unset, .unset] [(.int x4), (.int (3 : Int32)), (.ref b5), (.ref b5)])) rfl rfl (hb hby at_46)
  have V13 := Arv.set Aru12 qu12 Su12 Nu12 Hu12 Gu12 (fits_nar_byte _) W13 3 rfl (Nat.le_of_ble_eq_true rfl)
  have K13 := K11.wr W13 (Or.inr sz_b5)
  have N13 := Fr.snoc X13 N11 g_b5
  have Z13 : n0 ≤ h13.size := by rw [W13.size]; exact Z11
  refine own_st (T' := T13) (g' := (mkF m 47 #[.val (.int p1), .val (.int p2), .val (.int p3), .val (.int p4), .val (.int p5), .val (.int x1), .val (.int x2), .val (.int x3), .val (.int x4), .unset, .unset, .unset, .unset, .unset, .unset, .unset] [(.ref b5)])) (fun t9 k9 => st13 t9 k9) ?_
  have hvs : ∀ i, i < 4 → ((((([Value.int 0, .int 0, .int 0, .int 0].set 0 (.int x1.toInt8.toInt32)).set 1 (.int x2.toInt8.toInt32)).set 2 (.int x3.toInt8.toInt32)).set 3 (.int x4.toInt8.toInt32)).getD i (.int (0 : Int32))) = .int ((own_xs x1 x2 x3 x4) i) := by
    intro i hi
    match i, hi with
    | 0, _ => exact congrArg Value.int hb1
    | 1, _ => exact congrArg Value.int hb2
    | 2, _ => exact congrArg Value.int hb3
    | 3, _ => exact congrArg Value.int hb4
  have hby8 : ∀ i, i < 4 → ((own_xs x1 x2 x3 x4) i).toInt8.toInt32 = (own_xs x1 x2 x3 x4) i := by
    intro i hi
    match i, hi with
    | 0, _ => exact hb1
    | 1, _ => exact hb2
    | 2, _ => exact hb3
    | 3, _ => exact hb4
  refine own_st (T' := T13) (g' := (mkF m 49 #[.val (.int p1), .val (.int p2), .val (.int p3), .val (.int p4), .val (.int p5), .val (.int x1), .val (.int x2), .val (.int x3), .val (.int x4), .val (.ref b5), .unset, .unset, .unset, .unset, .unset, .unset] [])) (fun t9 k9 => XS.astore X13.here hx rfl (hb hby at_47) rfl rfl (l' := #[.val (.int p1), .val (.int p2), .val (.int p3), .val (.int p4), .val (.int p5), .val (.int x1), .val (.int x2), .val (.int x3), .val (.int x4), .val (.ref b5), .unset, .unset, .unset, .unset, .unset, .unset]) rfl k9) ?_
  refine own_st (T' := T13) (g' := (mkF m 51 #[.val (.int p1), .val (.int p2), .val (.int p3), .val (.int p4), .val (.int p5), .val (.int x1), .val (.int x2), .val (.int x3), .val (.int x4), .val (.ref b5), .unset, .unset, .unset, .unset, .unset, .unset] [(.int p5)])) (fun t9 k9 => XS.iload X13.here hx rfl (hb hby at_49) rfl k9) ?_
  refine own_st (T' := T13) (g' := (mkF m 53 #[.val (.int p1), .val (.int p2), .val (.int p3), .val (.int p4), .val (.int p5), .val (.int x1), .val (.int x2), .val (.int x3), .val (.int x4), .val (.ref b5), .unset, .unset, .unset, .unset, .unset, .unset] [(.int (7 : Int32)), (.int p5)])) (fun t9 k9 => XS.bipush X13.here hx rfl (hb hby at_51) k9) ?_
  refine own_st (T' := T13) (g' := (mkF m 54 #[.val (.int p1), .val (.int p2), .val (.int p3), .val (.int p4), .val (.int p5), .val (.int x1), .val (.int x2), .val (.int x3), .val (.int x4), .val (.ref b5), .unset, .unset, .unset, .unset, .unset, .unset] [(.int (p5 &&& (7 : Int32)))])) (fun t9 k9 => XS.iand X13.here hx rfl (hb hby at_53) rfl k9) ?_
  refine own_st (T' := T13) (g' := (mkF m 55 #[.val (.int p1), .val (.int p2), .val (.int p3), .val (.int p4), .val (.int p5), .val (.int x1), .val (.int x2), .val (.int x3), .val (.int x4), .val (.ref b5), .unset, .unset, .unset, .unset, .unset, .unset] [(.int (5 : Int32)), (.int (p5 &&& (7 : Int32)))])) (fun t9 k9 => XS.iconst X13.here hx rfl (hb hby at_54) k9) ?_
  refine own_st (T' := T13) (g' := (mkF m 56 #[.val (.int p1), .val (.int p2), .val (.int p3), .val (.int p4), .val (.int p5), .val (.int x1), .val (.int x2), .val (.int x3), .val (.int x4), .val (.ref b5), .unset, .unset, .unset, .unset, .unset, .unset] [(.int ((p5 &&& (7 : Int32)) % (5 : Int32)))])) (fun t9 k9 => iremM X13 hx (g := (mkF m 55 #[.val (.int p1), .val (.int p2), .val (.int p3), .val (.int p4), .val (.int p5), .val (.int x1), .val (.int x2), .val (.int x3), .val (.int x4), .val (.ref b5), .unset, .unset, .unset, .unset, .unset, .unset] [(.int (5 : Int32)), (.int (p5 &&& (7 : Int32)))])) rfl (hb hby at_55) rfl (by decide) k9) ?_
  obtain ⟨f, t, hft, ht4, ef, nz, et⟩ := own_range p5
  rw [ef]
  refine own_st (T' := T13) (g' := (mkF m 58 #[.val (.int p1), .val (.int p2), .val (.int p3), .val (.int p4), .val (.int p5), .val (.int x1), .val (.int x2), .val (.int x3), .val (.int x4), .val (.ref b5), .val (.int (Int32.ofNat f)), .unset, .unset, .unset, .unset, .unset] [])) (fun t9 k9 => XS.istore X13.here hx rfl (hb hby at_56) rfl (l' := #[.val (.int p1), .val (.int p2), .val (.int p3), .val (.int p4), .val (.int p5), .val (.int x1), .val (.int x2), .val (.int x3), .val (.int x4), .val (.ref b5), .val (.int (Int32.ofNat f)), .unset, .unset, .unset, .unset, .unset]) rfl k9) ?_
  refine own_st (T' := T13) (g' := (mkF m 60 #[.val (.int p1), .val (.int p2), .val (.int p3), .val (.int p4), .val (.int p5), .val (.int x1), .val (.int x2), .val (.int x3), .val (.int x4), .val (.ref b5), .val (.int (Int32.ofNat f)), .unset, .unset, .unset, .unset, .unset] [(.int (Int32.ofNat f))])) (fun t9 k9 => XS.iload X13.here hx rfl (hb hby at_58) rfl k9) ?_
  refine own_st (T' := T13) (g' := (mkF m 62 #[.val (.int p1), .val (.int p2), .val (.int p3), .val (.int p4), .val (.int p5), .val (.int x1), .val (.int x2), .val (.int x3), .val (.int x4), .val (.ref b5), .val (.int (Int32.ofNat f)), .unset, .unset, .unset, .unset, .unset] [(.int p5), (.int (Int32.ofNat f))])) (fun t9 k9 => XS.iload X13.here hx rfl (hb hby at_60) rfl k9) ?_
  refine own_st (T' := T13) (g' := (mkF m 63 #[.val (.int p1), .val (.int p2), .val (.int p3), .val (.int p4), .val (.int p5), .val (.int x1), .val (.int x2), .val (.int x3), .val (.int x4), .val (.ref b5), .val (.int (Int32.ofNat f)), .unset, .unset, .unset, .unset, .unset] [(.int (3 : Int32)), (.int p5), (.int (Int32.ofNat f))])) (fun t9 k9 => XS.iconst X13.here hx rfl (hb hby at_62) k9) ?_
  refine own_st (T' := T13) (g' := (mkF m 64 #[.val (.int p1), .val (.int p2), .val (.int p3), .val (.int p4), .val (.int p5), .val (.int x1), .val (.int x2), .val (.int x3), .val (.int x4), .val (.ref b5), .val (.int (Int32.ofNat f)), .unset, .unset, .unset, .unset, .unset] [(.int ((p5.toUInt32 >>> ((3 : Int32) &&& 31).toUInt32).toInt32)), (.int (Int32.ofNat f))])) (fun t9 k9 => XS.iushr X13.here hx rfl (hb hby at_63) rfl k9) ?_
  refine own_st (T' := T13) (g' := (mkF m 66 #[.val (.int p1), .val (.int p2), .val (.int p3), .val (.int p4), .val (.int p5), .val (.int x1), .val (.int x2), .val (.int x3), .val (.int x4), .val (.ref b5), .val (.int (Int32.ofNat f)), .unset, .unset, .unset, .unset, .unset] [(.int (7 : Int32)), (.int ((p5.toUInt32 >>> ((3 : Int32) &&& 31).toUInt32).toInt32)), (.int (Int32.ofNat f))])) (fun t9 k9 => XS.bipush X13.here hx rfl (hb hby at_64) k9) ?_
  refine own_st (T' := T13) (g' := (mkF m 67 #[.val (.int p1), .val (.int p2), .val (.int p3), .val (.int p4), .val (.int p5), .val (.int x1), .val (.int x2), .val (.int x3), .val (.int x4), .val (.ref b5), .val (.int (Int32.ofNat f)), .unset, .unset, .unset, .unset, .unset] [(.int (((p5.toUInt32 >>> ((3 : Int32) &&& 31).toUInt32).toInt32) &&& (7 : Int32))), (.int (Int32.ofNat f))])) (fun t9 k9 => XS.iand X13.here hx rfl (hb hby at_66) rfl k9) ?_
  refine own_st (T' := T13) (g' := (mkF m 68 #[.val (.int p1), .val (.int p2), .val (.int p3), .val (.int p4), .val (.int p5), .val (.int x1), .val (.int x2), .val (.int x3), .val (.int x4), .val (.ref b5), .val (.int (Int32.ofNat f)), .unset, .unset, .unset, .unset, .unset] [(.int (5 : Int32)), (.int (((p5.toUInt32 >>> ((3 : Int32) &&& 31).toUInt32).toInt32) &&& (7 : Int32))), (.int (Int32.ofNat f))])) (fun t9 k9 => XS.iconst X13.here hx rfl (hb hby at_67) k9) ?_
  refine own_st (T' := T13) (g' := (mkF m 70 #[.val (.int p1), .val (.int p2), .val (.int p3), .val (.int p4), .val (.int p5), .val (.int x1), .val (.int x2), .val (.int x3), .val (.int x4), .val (.ref b5), .val (.int (Int32.ofNat f)), .unset, .unset, .unset, .unset, .unset] [(.int (Int32.ofNat f)), (.int (5 : Int32)), (.int (((p5.toUInt32 >>> ((3 : Int32) &&& 31).toUInt32).toInt32) &&& (7 : Int32))), (.int (Int32.ofNat f))])) (fun t9 k9 => XS.iload X13.here hx rfl (hb hby at_68) rfl k9) ?_
  refine own_st (T' := T13) (g' := (mkF m 71 #[.val (.int p1), .val (.int p2), .val (.int p3), .val (.int p4), .val (.int p5), .val (.int x1), .val (.int x2), .val (.int x3), .val (.int x4), .val (.ref b5), .val (.int (Int32.ofNat f)), .unset, .unset, .unset, .unset, .unset] [(.int ((5 : Int32) - (Int32.ofNat f))), (.int (((p5.toUInt32 >>> ((3 : Int32) &&& 31).toUInt32).toInt32) &&& (7 : Int32))), (.int (Int32.ofNat f))])) (fun t9 k9 => XS.isub X13.here hx rfl (hb hby at_70) rfl k9) ?_
  refine own_st (T' := T13) (g' := (mkF m 72 #[.val (.int p1), .val (.int p2), .val (.int p3), .val (.int p4), .val (.int p5), .val (.int x1), .val (.int x2), .val (.int x3), .val (.int x4), .val (.ref b5), .val (.int (Int32.ofNat f)), .unset, .unset, .unset, .unset, .unset] [(.int ((((p5.toUInt32 >>> ((3 : Int32) &&& 31).toUInt32).toInt32) &&& (7 : Int32)) % ((5 : Int32) - (Int32.ofNat f)))), (.int (Int32.ofNat f))])) (fun t9 k9 => iremM X13 hx (g := (mkF m 71 #[.val (.int p1), .val (.int p2), .val (.int p3), .val (.int p4), .val (.int p5), .val (.int x1), .val (.int x2), .val (.int x3), .val (.int x4), .val (.ref b5), .val (.int (Int32.ofNat f)), .unset, .unset, .unset, .unset, .unset] [(.int ((5 : Int32) - (Int32.ofNat f))), (.int (((p5.toUInt32 >>> ((3 : Int32) &&& 31).toUInt32).toInt32) &&& (7 : Int32))), (.int (Int32.ofNat f))])) rfl (hb hby at_71) rfl nz k9) ?_
  refine own_st (T' := T13) (g' := (mkF m 73 #[.val (.int p1), .val (.int p2), .val (.int p3), .val (.int p4), .val (.int p5), .val (.int x1), .val (.int x2), .val (.int x3), .val (.int x4), .val (.ref b5), .val (.int (Int32.ofNat f)), .unset, .unset, .unset, .unset, .unset] [(.int ((Int32.ofNat f) + ((((p5.toUInt32 >>> ((3 : Int32) &&& 31).toUInt32).toInt32) &&& (7 : Int32)) % ((5 : Int32) - (Int32.ofNat f)))))])) (fun t9 k9 => XS.iadd X13.here hx rfl (hb hby at_72) rfl k9) ?_
  rw [et]
  refine own_st (T' := T13) (g' := (mkF m 75 #[.val (.int p1), .val (.int p2), .val (.int p3), .val (.int p4), .val (.int p5), .val (.int x1), .val (.int x2), .val (.int x3), .val (.int x4), .val (.ref b5), .val (.int (Int32.ofNat f)), .val (.int (Int32.ofNat t)), .unset, .unset, .unset, .unset] [])) (fun t9 k9 => XS.istore X13.here hx rfl (hb hby at_73) rfl (l' := #[.val (.int p1), .val (.int p2), .val (.int p3), .val (.int p4), .val (.int p5), .val (.int x1), .val (.int x2), .val (.int x3), .val (.int x4), .val (.ref b5), .val (.int (Int32.ofNat f)), .val (.int (Int32.ofNat t)), .unset, .unset, .unset, .unset]) rfl k9) ?_
  refine own_st (T' := T13) (g' := (mkF m 76 #[.val (.int p1), .val (.int p2), .val (.int p3), .val (.int p4), .val (.int p5), .val (.int x1), .val (.int x2), .val (.int x3), .val (.int x4), .val (.ref b5), .val (.int (Int32.ofNat f)), .val (.int (Int32.ofNat t)), .unset, .unset, .unset, .unset] [(.int (-1 : Int32))])) (fun t9 k9 => XS.iconst X13.here hx rfl (hb hby at_75) k9) ?_
  refine own_st (T' := T13) (g' := (mkF m 78 #[.val (.int p1), .val (.int p2), .val (.int p3), .val (.int p4), .val (.int p5), .val (.int x1), .val (.int x2), .val (.int x3), .val (.int x4), .val (.ref b5), .val (.int (Int32.ofNat f)), .val (.int (Int32.ofNat t)), .val (.int (-1 : Int32)), .unset, .unset, .unset] [])) (fun t9 k9 => XS.istore X13.here hx rfl (hb hby at_76) rfl (l' := #[.val (.int p1), .val (.int p2), .val (.int p3), .val (.int p4), .val (.int p5), .val (.int x1), .val (.int x2), .val (.int x3), .val (.int x4), .val (.ref b5), .val (.int (Int32.ofNat f)), .val (.int (Int32.ofNat t)), .val (.int (-1 : Int32)), .unset, .unset, .unset]) rfl k9) ?_
  have jy3 : ∀ (T14 : State) (L14 : List Loc) (y3 : Int32), Stand p l e room_1 s m #[(.int p1), (.int p2), (.int p3), (.int p4), (.int p5)] below meth c T14 L14 (0 + 1) (0 + 4) → T14.heap = h13 → Fr n0 L14 → (own_PF (own_xs x1 x2 x3 x4) f t 3 y3) → own_Go p e below F T14 (mkF m 94 #[.val (.int p1), .val (.int p2), .val (.int p3), .val (.int p4), .val (.int p5), .val (.int x1), .val (.int x2), .val (.int x3), .val (.int x4), .val (.ref b5), .val (.int (Int32.ofNat f)), .val (.int (Int32.ofNat t)), .val (.int y3), .unset, .unset, .unset] []) := by
    intro T14 L14 y3 X14 e14 N14 hy3
    have jy2 : ∀ (T15 : State) (L15 : List Loc) (y2 : Int32), Stand p l e room_1 s m #[(.int p1), (.int p2), (.int p3), (.int p4), (.int p5)] below meth c T15 L15 (0 + 1) (0 + 4) → T15.heap = h13 → Fr n0 L15 → (own_PF (own_xs x1 x2 x3 x4) f t 2 y2) → own_Go p e below F T15 (mkF m 110 #[.val (.int p1), .val (.int p2), .val (.int p3), .val (.int p4), .val (.int p5), .val (.int x1), .val (.int x2), .val (.int x3), .val (.int x4), .val (.ref b5), .val (.int (Int32.ofNat f)), .val (.int (Int32.ofNat t)), .val (.int y2), .unset, .unset, .unset] []) := by
      intro T15 L15 y2 X15 e15 N15 hy2
      have jy1 : ∀ (T16 : State) (L16 : List Loc) (y1 : Int32), Stand p l e room_1 s m #[(.int p1), (.int p2), (.int p3), (.int p4), (.int p5)] below meth c T16 L16 (0 + 1) (0 + 4) → T16.heap = h13 → Fr n0 L16 → (own_PF (own_xs x1 x2 x3 x4) f t 1 y1) → own_Go p e below F T16 (mkF m 126 #[.val (.int p1), .val (.int p2), .val (.int p3), .val (.int p4), .val (.int p5), .val (.int x1), .val (.int x2), .val (.int x3), .val (.int x4), .val (.ref b5), .val (.int (Int32.ofNat f)), .val (.int (Int32.ofNat t)), .val (.int y1), .unset, .unset, .unset] []) := by
        intro T16 L16 y1 X16 e16 N16 hy1
        have jy0 : ∀ (T17 : State) (L17 : List Loc) (y0 : Int32), Stand p l e room_1 s m #[(.int p1), (.int p2), (.int p3), (.int p4), (.int p5)] below meth c T17 L17 (0 + 1) (0 + 4) → T17.heap = h13 → Fr n0 L17 → (own_PF (own_xs x1 x2 x3 x4) f t 0 y0) → own_Go p e below F T17 (mkF m 142 #[.val (.int p1), .val (.int p2), .val (.int p3), .val (.int p4), .val (.int p5), .val (.int x1), .val (.int x2), .val (.int x3), .val (.int x4), .val (.ref b5), .val (.int (Int32.ofNat f)), .val (.int (Int32.ofNat t)), .val (.int y0), .unset, .unset, .unset] []) := by
          intro T17 L17 y0 X17 e17 N17 hy0
          obtain ⟨T18, h18, X18, e18, E18, A18, D18, -, st18⟩ := newO X17 hx hZ hown (hw _ (List.mem_of_getElem? (i := 8) rfl)) (hw _ (List.mem_of_getElem? (i := 9) rfl)) (hw _ (List.mem_of_getElem? (i := 10) rfl)) e17 (g := (mkF m 142 #[.val (.int p1), .val (.int p2), .val (.int p3), .val (.int p4), .val (.int p5), .val (.int x1), .val (.int x2), .val (.int x3), .val (.int x4), .val (.ref b5), .val (.int (Int32.ofNat f)), .val (.int (Int32.ofNat t)), .val (.int y0), .unset, .unset, .unset] [])) rfl (hb hby at_142) (by decide) (by decide)
          obtain ⟨b18, gb18⟩ : ∃ z, z = h13.size := ⟨_, rfl⟩
          have ne_b5_b18 : b5 ≠ b18 := own_ne gb18 V13.lt
          have g_b18 : n0 ≤ b18 := gb18 ▸ Z13
          have sz_b18 : h0.size ≤ b18 := gb18 ▸ K13.1
          rw [← gb18] at A18 D18 st18
          have V13_19 := V13.ext E18
          have K18 := K13.ext E18
          have Z18 : n0 ≤ h18.size := Nat.le_trans Z13 E18.1
          have F_line_b18 : Fld Z h18 b18 "com/example/tuck/tuck/io/Words" "line" "[B" .null := D18 (Or.inr (hw _ (List.mem_of_getElem? (i := 18) rfl))) (ty := (.array .byte)) (by decide)
          have F_pos_b18 : Fld Z h18 b18 "com/example/tuck/tuck/io/Words" "pos" "I" (.int (0 : Int32)) := D18 (Or.inl (hw _ (List.mem_of_getElem? (i := 20) rfl))) (ty := .int) (by decide)
          have F_end_b18 : Fld Z h18 b18 "com/example/tuck/tuck/io/Words" "end" "I" (.int (0 : Int32)) := D18 (Or.inr (hw _ (List.mem_of_getElem? (i := 22) rfl))) (ty := .int) (by decide)
          refine own_st (T' := T18) (g' := (mkF m 145 #[.val (.int p1), .val (.int p2), .val (.int p3), .val (.int p4), .val (.int p5), .val (.int x1), .val (.int x2), .val (.int x3), .val (.int x4), .val (.ref b5), .val (.int (Int32.ofNat f)), .val (.int (Int32.ofNat t)), .val (.int y0), .unset, .unset, .unset] [(.ref b18)])) (fun t9 k9 => st18 t9 k9) ?_
          refine own_st (T' := T18) (g' := (mkF m 146 #[.val (.int p1), .val (.int p2), .val (.int p3), .val (.int p4), .val (.int p5), .val (.int x1), .val (.int x2), .val (.int x3), .val (.int x4), .val (.ref b5), .val (.int (Int32.ofNat f)), .val (.int (Int32.ofNat t)), .val (.int y0), .unset, .unset, .unset] [(.ref b18), (.ref b18)])) (fun t9 k9 => XS.dup X18.here hx rfl (hb hby at_145) rfl rfl k9) ?_
          refine own_st (T' := T18) (g' := (mkF m 148 #[.val (.int p1), .val (.int p2), .val (.int p3), .val (.int p4), .val (.int p5), .val (.int x1), .val (.int x2), .val (.int x3), .val (.int x4), .val (.ref b5), .val (.int (Int32.ofNat f)), .val (.int (Int32.ofNat t)), .val (.int y0), .unset, .unset, .unset] [(.ref b5), (.ref b18), (.ref b18)])) (fun t9 k9 => XS.aload X18.here hx rfl (hb hby at_146) rfl rfl k9) ?_
          refine own_st (T' := T18) (g' := (mkF m 150 #[.val (.int p1), .val (.int p2), .val (.int p3), .val (.int p4), .val (.int p5), .val (.int x1), .val (.int x2), .val (.int x3), .val (.int x4), .val (.ref b5), .val (.int (Int32.ofNat f)), .val (.int (Int32.ofNat t)), .val (.int y0), .unset, .unset, .unset] [(.int (Int32.ofNat f)), (.ref b5), (.ref b18), (.ref b18)])) (fun t9 k9 => XS.iload X18.here hx rfl (hb hby at_148) rfl k9) ?_
          refine own_st (T' := T18) (g' := (mkF m 152 #[.val (.int p1), .val (.int p2), .val (.int p3), .val (.int p4), .val (.int p5), .val (.int x1), .val (.int x2), .val (.int x3), .val (.int x4), .val (.ref b5), .val (.int (Int32.ofNat f)), .val (.int (Int32.ofNat t)), .val (.int y0), .unset, .unset, .unset] [(.int (Int32.ofNat t)), (.int (Int32.ofNat f)), (.ref b5), (.ref b18), (.ref b18)])) (fun t9 k9 => XS.iload X18.here hx rfl (hb hby at_150) rfl k9) ?_
          obtain ⟨_, _, ⟨T20, L20, k20, n20⟩, -, X20, ⟨Lc20, hQ20, l20, y20, z20⟩, st20⟩ := X18.specialBack hx (y := (⟨"com/example/tuck/tuck/io/Words", "<init>", "([BII)V"⟩ : MethodName)) rfl hown (mvT hZ (hw _ (List.mem_of_getElem? (i := 11) rfl))) (mvT hZ (hw _ (List.mem_of_getElem? (i := 12) rfl))) (mvT hZ (hw _ (List.mem_of_getElem? (i := 13) rfl))) (by decide) (own_back (W := 1) (rm3 l Z a0 hw b18 b5 (Int32.ofNat f) (Int32.ofNat t) .null (.int 0) (.int 0) h18 n0 Z18 A18 F_line_b18 F_pos_b18 F_end_b18 g_b18) hZ (hw _ (List.mem_of_getElem? (i := 13) rfl)) (hw _ (List.mem_of_getElem? (i := 10) rfl)) (by decide) (by decide)) (g := (mkF m 152 #[.val (.int p1), .val (.int p2), .val (.int p3), .val (.int p4), .val (.int p5), .val (.int x1), .val (.int x2), .val (.int x3), .val (.int x4), .val (.ref b5), .val (.int (Int32.ofNat f)), .val (.int (Int32.ofNat t)), .val (.int y0), .unset, .unset, .unset] [(.int (Int32.ofNat t)), (.int (Int32.ofNat f)), (.ref b5), (.ref b18), (.ref b18)])) rfl (by rw [hml]; rfl) (Steps.refl _) (a := b18) (argsL := [(.ref b5), (.int (Int32.ofNat f)), (.int (Int32.ofNat t))]) (rest := [(.ref b18)]) (lenOf pd_2 rfl) rfl (by show 2 * 0 + _ ≤ _; exact Nat.le_of_eq rfl) (hb hby at_152) (fun _ _ => ⟨rfl, e18, (Nat.le_of_ble_eq_true rfl), (Nat.le_of_ble_eq_true rfl)⟩)
          dsimp only [Pt.U, Pt.locs, Pt.cells, Pt.slots] at X20 l20 y20 z20 st20 hQ20
          subst l20 y20 z20
          obtain ⟨rfl, Nq20, Kq20, Eq20, Fl20, Fp20, Fe20⟩ := hQ20
          have N20 := Fr.app N17 Nq20
          obtain ⟨h20, e20⟩ : ∃ z, T20.heap = z := ⟨_, rfl⟩
          rw [e20] at Kq20 Eq20 Fl20 Fp20 Fe20
          have V13_21 := V13_19.keep Kq20 (ninS ne_b5_b18 nin0)
          have A18_22 := A18.keep Kq20
          have K20 := K18.trans Kq20 (allS (Or.inr sz_b18) all0)
          have Z20 : n0 ≤ h20.size := Nat.le_trans Z18 Kq20.1
          refine own_st (T' := T20) (g' := (mkF m 155 #[.val (.int p1), .val (.int p2), .val (.int p3), .val (.int p4), .val (.int p5), .val (.int x1), .val (.int x2), .val (.int x3), .val (.int x4), .val (.ref b5), .val (.int (Int32.ofNat f)), .val (.int (Int32.ofNat t)), .val (.int y0), .unset, .unset, .unset] [(.ref b18)])) (fun t9 k9 => st20.trans k9) ?_
          refine own_st (T' := T20) (g' := (mkF m 157 #[.val (.int p1), .val (.int p2), .val (.int p3), .val (.int p4), .val (.int p5), .val (.int x1), .val (.int x2), .val (.int x3), .val (.int x4), .val (.ref b5), .val (.int (Int32.ofNat f)), .val (.int (Int32.ofNat t)), .val (.int y0), .val (.ref b18), .unset, .unset] [])) (fun t9 k9 => XS.astore X20.here hx rfl (hb hby at_155) rfl rfl (l' := #[.val (.int p1), .val (.int p2), .val (.int p3), .val (.int p4), .val (.int p5), .val (.int x1), .val (.int x2), .val (.int x3), .val (.int x4), .val (.ref b5), .val (.int (Int32.ofNat f)), .val (.int (Int32.ofNat t)), .val (.int y0), .val (.ref b18), .unset, .unset]) rfl k9) ?_
          refine own_st (T' := T20) (g' := (mkF m 159 #[.val (.int p1), .val (.int p2), .val (.int p3), .val (.int p4), .val (.int p5), .val (.int x1), .val (.int x2), .val (.int x3), .val (.int x4), .val (.ref b5), .val (.int (Int32.ofNat f)), .val (.int (Int32.ofNat t)), .val (.int y0), .val (.ref b18), .unset, .unset] [(.ref b18)])) (fun t9 k9 => XS.aload X20.here hx rfl (hb hby at_157) rfl rfl k9) ?_
          obtain ⟨cq23, kq23, qa23, qb23, qc23⟩ := isOf hZ e20 A18_22
          obtain ⟨_, _, ⟨T23, L23, k23, n23⟩, -, X23, ⟨Lc23, hQ23, l23, y23, z23⟩, st23⟩ := X20.virtualBack hx (y := (⟨"com/example/tuck/tuck/io/Words", "hasNext", "()Z"⟩ : MethodName)) (z := (⟨"com/example/tuck/tuck/io/Words", "hasNext", "()Z"⟩ : MethodName)) hown (mvT hZ (hw _ (List.mem_of_getElem? (i := 23) rfl))) (mvT hZ (hw _ (List.mem_of_getElem? (i := 24) rfl))) (notFace_of_selects (args := #[]) (mvT hZ (hw _ (List.mem_of_getElem? (i := 26) rfl)))) (mvT hZ (hw _ (List.mem_of_getElem? (i := 26) rfl))) (mvT hZ (hw _ (List.mem_of_getElem? (i := 25) rfl))) (by decide) (own_back (W := 0) (rm5 l Z a0 hw b18 b5 k5 _ (own_xs x1 x2 x3 x4) f t h20 n0 Z20 A18_22 Fl20 Fp20 Fe20 V13_21 ne_b5_b18 g_b18 hft ht4 hvs) hZ (hw _ (List.mem_of_getElem? (i := 27) rfl)) (hw _ (List.mem_of_getElem? (i := 10) rfl)) (by decide) (by decide)) qa23 qc23 (g := (mkF m 159 #[.val (.int p1), .val (.int p2), .val (.int p3), .val (.int p4), .val (.int p5), .val (.int x1), .val (.int x2), .val (.int x3), .val (.int x4), .val (.ref b5), .val (.int (Int32.ofNat f)), .val (.int (Int32.ofNat t)), .val (.int y0), .val (.ref b18), .unset, .unset] [(.ref b18)])) rfl (by rw [hml]; rfl) (Steps.refl _) (argsL := []) (rest := []) (lenOf pd_4 rfl) rfl (by show 2 * 0 + _ ≤ _; exact Nat.le_of_eq rfl) (hb hby at_159) (fun _ _ => ⟨rfl, e20, (Nat.le_of_ble_eq_true rfl), (Nat.le_of_ble_eq_true rfl)⟩)
          dsimp only [Pt.U, Pt.locs, Pt.cells, Pt.slots] at X23 l23 y23 z23 st23 hQ23
          subst l23 y23 z23
          obtain ⟨q23, z23, rfl, Nq23, Kq23, Eq23, Fl23, Fp23, Fe23, hl23, hu23, ha23, hr23⟩ := hQ23
          have N23 := Fr.app N20 Nq23
          obtain ⟨h23, e23⟩ : ∃ z, T23.heap = z := ⟨_, rfl⟩
          rw [e23] at Kq23 Eq23 Fl23 Fp23 Fe23
          have V13_24 := V13_21.keep Kq23 (ninS ne_b5_b18 nin0)
          have A18_25 := A18_22.keep Kq23
          have K23 := K20.trans Kq23 (allS (Or.inr sz_b18) all0)
          have Z23 : n0 ≤ h23.size := Nat.le_trans Z20 Kq23.1
          refine own_st (T' := T23) (g' := (mkF m 162 #[.val (.int p1), .val (.int p2), .val (.int p3), .val (.int p4), .val (.int p5), .val (.int x1), .val (.int x2), .val (.int x3), .val (.int x4), .val (.ref b5), .val (.int (Int32.ofNat f)), .val (.int (Int32.ofNat t)), .val (.int y0), .val (.ref b18), .unset, .unset] [(.int z23)])) (fun t9 k9 => st23.trans k9) ?_
          rcases hy0 with ⟨rfl, hy⟩ | ⟨c9, rfl, hc0, hc4, hcf, hct, hcn, hca⟩
          · obtain ⟨rfl, rfl⟩ : t = q23 ∧ z23 = 0 := by
              rcases hr23 with q | ⟨q, -, r⟩
              · exact ⟨q.1.symm, q.2⟩
              · exact absurd (hy _ (Nat.zero_le _) (by omega) hl23 q) r
            show own_Go p e below F T23 (mkF m 162 #[.val (.int p1), .val (.int p2), .val (.int p3), .val (.int p4), .val (.int p5), .val (.int x1), .val (.int x2), .val (.int x3), .val (.int x4), .val (.ref b5), .val (.int (Int32.ofNat f)), .val (.int (Int32.ofNat t)), .val (.int (-1 : Int32)), .val (.ref b18), .unset, .unset] [(.int (0 : Int32))])
            refine own_st (T' := T23) (g' := (mkF m 164 #[.val (.int p1), .val (.int p2), .val (.int p3), .val (.int p4), .val (.int p5), .val (.int x1), .val (.int x2), .val (.int x3), .val (.int x4), .val (.ref b5), .val (.int (Int32.ofNat f)), .val (.int (Int32.ofNat t)), .val (.int (-1 : Int32)), .val (.ref b18), .val (.int (0 : Int32)), .unset] [])) (fun t9 k9 => XS.istore X23.here hx rfl (hb hby at_162) rfl (l' := #[.val (.int p1), .val (.int p2), .val (.int p3), .val (.int p4), .val (.int p5), .val (.int x1), .val (.int x2), .val (.int x3), .val (.int x4), .val (.ref b5), .val (.int (Int32.ofNat f)), .val (.int (Int32.ofNat t)), .val (.int (-1 : Int32)), .val (.ref b18), .val (.int (0 : Int32)), .unset]) rfl k9) ?_
            refine own_st (T' := T23) (g' := (mkF m 166 #[.val (.int p1), .val (.int p2), .val (.int p3), .val (.int p4), .val (.int p5), .val (.int x1), .val (.int x2), .val (.int x3), .val (.int x4), .val (.ref b5), .val (.int (Int32.ofNat f)), .val (.int (Int32.ofNat t)), .val (.int (-1 : Int32)), .val (.ref b18), .val (.int (0 : Int32)), .unset] [(.int (0 : Int32))])) (fun t9 k9 => XS.iload X23.here hx rfl (hb hby at_164) rfl k9) ?_
            refine own_st (T' := T23) (g' := (mkF m 168 #[.val (.int p1), .val (.int p2), .val (.int p3), .val (.int p4), .val (.int p5), .val (.int x1), .val (.int x2), .val (.int x3), .val (.int x4), .val (.ref b5), .val (.int (Int32.ofNat f)), .val (.int (Int32.ofNat t)), .val (.int (-1 : Int32)), .val (.ref b18), .val (.int (0 : Int32)), .unset] [(.int (-1 : Int32)), (.int (0 : Int32))])) (fun t9 k9 => XS.iload X23.here hx rfl (hb hby at_166) rfl k9) ?_
            refine own_st (T' := T23) (g' := (mkF m 175 #[.val (.int p1), .val (.int p2), .val (.int p3), .val (.int p4), .val (.int p5), .val (.int x1), .val (.int x2), .val (.int x3), .val (.int x4), .val (.ref b5), .val (.int (Int32.ofNat f)), .val (.int (Int32.ofNat t)), .val (.int (-1 : Int32)), .val (.ref b18), .val (.int (0 : Int32)), .unset] [(.int (0 : Int32))])) (fun t9 k9 => XS.ifYes X23.here hx rfl (pc0 := 168) (pc' := 175) rfl (hb hby at_168) rfl ((if0 _ _).trans (tlt (by decide)).1) (by decide) (by decide) k9) ?_
            refine own_st (T' := T23) (g' := (mkF m 176 #[.val (.int p1), .val (.int p2), .val (.int p3), .val (.int p4), .val (.int p5), .val (.int x1), .val (.int x2), .val (.int x3), .val (.int x4), .val (.ref b5), .val (.int (Int32.ofNat f)), .val (.int (Int32.ofNat t)), .val (.int (-1 : Int32)), .val (.ref b18), .val (.int (0 : Int32)), .unset] [(.int (0 : Int32)), (.int (0 : Int32))])) (fun t9 k9 => XS.iconst X23.here hx rfl (hb hby at_175) k9) ?_
            refine own_st (T' := T23) (g' := (mkF m 181 #[.val (.int p1), .val (.int p2), .val (.int p3), .val (.int p4), .val (.int p5), .val (.int x1), .val (.int x2), .val (.int x3), .val (.int x4), .val (.ref b5), .val (.int (Int32.ofNat f)), .val (.int (Int32.ofNat t)), .val (.int (-1 : Int32)), .val (.ref b18), .val (.int (0 : Int32)), .unset] [])) (fun t9 k9 => XS.icmpYes X23.here hx rfl (pc0 := 176) (pc' := 181) rfl (hb hby at_176) rfl (teq rfl).1 (by decide) (by decide) k9) ?_
            refine own_st (T' := T23) (g' := (mkF m 183 #[.val (.int p1), .val (.int p2), .val (.int p3), .val (.int p4), .val (.int p5), .val (.int x1), .val (.int x2), .val (.int x3), .val (.int x4), .val (.ref b5), .val (.int (Int32.ofNat f)), .val (.int (Int32.ofNat t)), .val (.int (-1 : Int32)), .val (.ref b18), .val (.int (0 : Int32)), .unset] [(.int (0 : Int32))])) (fun t9 k9 => XS.iload X23.here hx rfl (hb hby at_181) rfl k9) ?_
            refine own_st (T' := T23) (g' := (mkF m 205 #[.val (.int p1), .val (.int p2), .val (.int p3), .val (.int p4), .val (.int p5), .val (.int x1), .val (.int x2), .val (.int x3), .val (.int x4), .val (.ref b5), .val (.int (Int32.ofNat f)), .val (.int (Int32.ofNat t)), .val (.int (-1 : Int32)), .val (.ref b18), .val (.int (0 : Int32)), .unset] [])) (fun t9 k9 => XS.ifYes X23.here hx rfl (pc0 := 183) (pc' := 205) rfl (hb hby at_183) rfl ((if0 _ _).trans (teq rfl).1) (by decide) (by decide) k9) ?_
            refine own_st (T' := T23) (g' := (mkF m 207 #[.val (.int p1), .val (.int p2), .val (.int p3), .val (.int p4), .val (.int p5), .val (.int x1), .val (.int x2), .val (.int x3), .val (.int x4), .val (.ref b5), .val (.int (Int32.ofNat f)), .val (.int (Int32.ofNat t)), .val (.int (-1 : Int32)), .val (.ref b18), .val (.int (0 : Int32)), .unset] [(.ref b18)])) (fun t9 k9 => XS.aload X23.here hx rfl (hb hby at_205) rfl rfl k9) ?_
            obtain ⟨cq26, kq26, qa26, qb26, qc26⟩ := isOf hZ e23 A18_25
            obtain ⟨_, _, ⟨T26, L26, k26, n26⟩, -, X26, ⟨Lc26, hQ26, l26, y26, z26⟩, st26⟩ := X23.virtualBack hx (y := (⟨"com/example/tuck/tuck/io/Words", "hasNext", "()Z"⟩ : MethodName)) (z := (⟨"com/example/tuck/tuck/io/Words", "hasNext", "()Z"⟩ : MethodName)) hown (mvT hZ (hw _ (List.mem_of_getElem? (i := 23) rfl))) (mvT hZ (hw _ (List.mem_of_getElem? (i := 24) rfl))) (notFace_of_selects (args := #[]) (mvT hZ (hw _ (List.mem_of_getElem? (i := 26) rfl)))) (mvT hZ (hw _ (List.mem_of_getElem? (i := 26) rfl))) (mvT hZ (hw _ (List.mem_of_getElem? (i := 25) rfl))) (by decide) (own_back (W := 0) (rm5 l Z a0 hw b18 b5 k5 _ (own_xs x1 x2 x3 x4) t t h23 n0 Z23 A18_25 Fl23 Fp23 Fe23 V13_24 ne_b5_b18 g_b18 (Nat.le_refl _) ht4 hvs) hZ (hw _ (List.mem_of_getElem? (i := 27) rfl)) (hw _ (List.mem_of_getElem? (i := 10) rfl)) (by decide) (by decide)) qa26 qc26 (g := (mkF m 207 #[.val (.int p1), .val (.int p2), .val (.int p3), .val (.int p4), .val (.int p5), .val (.int x1), .val (.int x2), .val (.int x3), .val (.int x4), .val (.ref b5), .val (.int (Int32.ofNat f)), .val (.int (Int32.ofNat t)), .val (.int (-1 : Int32)), .val (.ref b18), .val (.int (0 : Int32)), .unset] [(.ref b18)])) rfl (by rw [hml]; rfl) (Steps.refl _) (argsL := []) (rest := []) (lenOf pd_4 rfl) rfl (by show 2 * 0 + _ ≤ _; exact Nat.le_of_eq rfl) (hb hby at_207) (fun _ _ => ⟨rfl, e23, (Nat.le_of_ble_eq_true rfl), (Nat.le_of_ble_eq_true rfl)⟩)
            dsimp only [Pt.U, Pt.locs, Pt.cells, Pt.slots] at X26 l26 y26 z26 st26 hQ26
            subst l26 y26 z26
            obtain ⟨q26, z26, rfl, Nq26, Kq26, Eq26, Fl26, Fp26, Fe26, hl26, hu26, ha26, hr26⟩ := hQ26
            have N26 := Fr.app N23 Nq26
            obtain ⟨h26, e26⟩ : ∃ z, T26.heap = z := ⟨_, rfl⟩
            rw [e26] at Kq26 Eq26 Fl26 Fp26 Fe26
            have V13_27 := V13_24.keep Kq26 (ninS ne_b5_b18 nin0)
            have A18_28 := A18_25.keep Kq26
            have K26 := K23.trans Kq26 (allS (Or.inr sz_b18) all0)
            have Z26 : n0 ≤ h26.size := Nat.le_trans Z23 Kq26.1
            refine own_st (T' := T26) (g' := (mkF m 210 #[.val (.int p1), .val (.int p2), .val (.int p3), .val (.int p4), .val (.int p5), .val (.int x1), .val (.int x2), .val (.int x3), .val (.int x4), .val (.ref b5), .val (.int (Int32.ofNat f)), .val (.int (Int32.ofNat t)), .val (.int (-1 : Int32)), .val (.ref b18), .val (.int (0 : Int32)), .unset] [(.int z26)])) (fun t9 k9 => st26.trans k9) ?_
            obtain rfl : z26 = 0 := by
              rcases hr26 with q | ⟨q, -, -⟩
              · exact q.2
              · exact absurd hl26 (by omega)
            show own_Go p e below F T26 (mkF m 210 #[.val (.int p1), .val (.int p2), .val (.int p3), .val (.int p4), .val (.int p5), .val (.int x1), .val (.int x2), .val (.int x3), .val (.int x4), .val (.ref b5), .val (.int (Int32.ofNat f)), .val (.int (Int32.ofNat t)), .val (.int (-1 : Int32)), .val (.ref b18), .val (.int (0 : Int32)), .unset] [(.int (0 : Int32))])
            refine own_st (T' := T26) (g' := (mkF m 212 #[.val (.int p1), .val (.int p2), .val (.int p3), .val (.int p4), .val (.int p5), .val (.int x1), .val (.int x2), .val (.int x3), .val (.int x4), .val (.ref b5), .val (.int (Int32.ofNat f)), .val (.int (Int32.ofNat t)), .val (.int (-1 : Int32)), .val (.ref b18), .val (.int (0 : Int32)), .val (.int (0 : Int32))] [])) (fun t9 k9 => XS.istore X26.here hx rfl (hb hby at_210) rfl (l' := #[.val (.int p1), .val (.int p2), .val (.int p3), .val (.int p4), .val (.int p5), .val (.int x1), .val (.int x2), .val (.int x3), .val (.int x4), .val (.ref b5), .val (.int (Int32.ofNat f)), .val (.int (Int32.ofNat t)), .val (.int (-1 : Int32)), .val (.ref b18), .val (.int (0 : Int32)), .val (.int (0 : Int32))]) rfl k9) ?_
            refine own_st (T' := T26) (g' := (mkF m 214 #[.val (.int p1), .val (.int p2), .val (.int p3), .val (.int p4), .val (.int p5), .val (.int x1), .val (.int x2), .val (.int x3), .val (.int x4), .val (.ref b5), .val (.int (Int32.ofNat f)), .val (.int (Int32.ofNat t)), .val (.int (-1 : Int32)), .val (.ref b18), .val (.int (0 : Int32)), .val (.int (0 : Int32))] [(.int (0 : Int32))])) (fun t9 k9 => XS.iload X26.here hx rfl (hb hby at_212) rfl k9) ?_
            refine own_st (T' := T26) (g' := (mkF m 216 #[.val (.int p1), .val (.int p2), .val (.int p3), .val (.int p4), .val (.int p5), .val (.int x1), .val (.int x2), .val (.int x3), .val (.int x4), .val (.ref b5), .val (.int (Int32.ofNat f)), .val (.int (Int32.ofNat t)), .val (.int (-1 : Int32)), .val (.ref b18), .val (.int (0 : Int32)), .val (.int (0 : Int32))] [(.int (0 : Int32)), (.int (0 : Int32))])) (fun t9 k9 => XS.iload X26.here hx rfl (hb hby at_214) rfl k9) ?_
            refine own_st (T' := T26) (g' := (mkF m 219 #[.val (.int p1), .val (.int p2), .val (.int p3), .val (.int p4), .val (.int p5), .val (.int x1), .val (.int x2), .val (.int x3), .val (.int x4), .val (.ref b5), .val (.int (Int32.ofNat f)), .val (.int (Int32.ofNat t)), .val (.int (-1 : Int32)), .val (.ref b18), .val (.int (0 : Int32)), .val (.int (0 : Int32))] [])) (fun t9 k9 => XS.icmpNo X26.here hx rfl (hb hby at_216) rfl (teq rfl).2 k9) ?_
            refine own_st (T' := T26) (g' := (mkF m 220 #[.val (.int p1), .val (.int p2), .val (.int p3), .val (.int p4), .val (.int p5), .val (.int x1), .val (.int x2), .val (.int x3), .val (.int x4), .val (.ref b5), .val (.int (Int32.ofNat f)), .val (.int (Int32.ofNat t)), .val (.int (-1 : Int32)), .val (.ref b18), .val (.int (0 : Int32)), .val (.int (0 : Int32))] [(.int (1 : Int32))])) (fun t9 k9 => XS.iconst X26.here hx rfl (hb hby at_219) k9) ?_
            refine own_st (T' := T26) (g' := (mkF m 224 #[.val (.int p1), .val (.int p2), .val (.int p3), .val (.int p4), .val (.int p5), .val (.int x1), .val (.int x2), .val (.int x3), .val (.int x4), .val (.ref b5), .val (.int (Int32.ofNat f)), .val (.int (Int32.ofNat t)), .val (.int (-1 : Int32)), .val (.ref b18), .val (.int (0 : Int32)), .val (.int (0 : Int32))] [(.int (1 : Int32))])) (fun t9 k9 => XS.goto X26.here hx rfl (pc0 := 220) (pc' := 224) rfl (hb hby at_220) (by decide) (by decide) k9) ?_
            refine own_ret (v := some (.int (1 : Int32))) hF X26 (own_some hret) hlk (fun fs hr => retN X26 hx (t := .boolean) hret (by simp) (hb hby at_224) hr) ?_ (by decide) (by decide)
            try rw [e26]
            exact ⟨rfl, N26⟩
          · have hqt : q23 < t ∧ z23 = 1 ∧ ¬ own_w ((own_xs x1 x2 x3 x4) q23) := by
              rcases hr23 with ⟨q, -⟩ | q
              · exact absurd (ha23 c9 hcf (by omega)) hcn
              · exact q
            obtain ⟨hqt, rfl, hqn⟩ := hqt
            obtain rfl : q23 = c9 := by
              rcases Nat.lt_trichotomy q23 c9 with q | q | q
              · exact absurd (hca _ (Nat.zero_le _) q hl23 hqt) hqn
              · exact q
              · exact absurd (ha23 _ hcf q) hcn
            obtain ⟨r1, r2, r3⟩ := own_nat hc4
            show own_Go p e below F T23 (mkF m 162 #[.val (.int p1), .val (.int p2), .val (.int p3), .val (.int p4), .val (.int p5), .val (.int x1), .val (.int x2), .val (.int x3), .val (.int x4), .val (.ref b5), .val (.int (Int32.ofNat f)), .val (.int (Int32.ofNat t)), .val (.int (Int32.ofNat q23)), .val (.ref b18), .unset, .unset] [(.int (1 : Int32))])
            refine own_st (T' := T23) (g' := (mkF m 164 #[.val (.int p1), .val (.int p2), .val (.int p3), .val (.int p4), .val (.int p5), .val (.int x1), .val (.int x2), .val (.int x3), .val (.int x4), .val (.ref b5), .val (.int (Int32.ofNat f)), .val (.int (Int32.ofNat t)), .val (.int (Int32.ofNat q23)), .val (.ref b18), .val (.int (1 : Int32)), .unset] [])) (fun t9 k9 => XS.istore X23.here hx rfl (hb hby at_162) rfl (l' := #[.val (.int p1), .val (.int p2), .val (.int p3), .val (.int p4), .val (.int p5), .val (.int x1), .val (.int x2), .val (.int x3), .val (.int x4), .val (.ref b5), .val (.int (Int32.ofNat f)), .val (.int (Int32.ofNat t)), .val (.int (Int32.ofNat q23)), .val (.ref b18), .val (.int (1 : Int32)), .unset]) rfl k9) ?_
            refine own_st (T' := T23) (g' := (mkF m 166 #[.val (.int p1), .val (.int p2), .val (.int p3), .val (.int p4), .val (.int p5), .val (.int x1), .val (.int x2), .val (.int x3), .val (.int x4), .val (.ref b5), .val (.int (Int32.ofNat f)), .val (.int (Int32.ofNat t)), .val (.int (Int32.ofNat q23)), .val (.ref b18), .val (.int (1 : Int32)), .unset] [(.int (1 : Int32))])) (fun t9 k9 => XS.iload X23.here hx rfl (hb hby at_164) rfl k9) ?_
            refine own_st (T' := T23) (g' := (mkF m 168 #[.val (.int p1), .val (.int p2), .val (.int p3), .val (.int p4), .val (.int p5), .val (.int x1), .val (.int x2), .val (.int x3), .val (.int x4), .val (.ref b5), .val (.int (Int32.ofNat f)), .val (.int (Int32.ofNat t)), .val (.int (Int32.ofNat q23)), .val (.ref b18), .val (.int (1 : Int32)), .unset] [(.int (Int32.ofNat q23)), (.int (1 : Int32))])) (fun t9 k9 => XS.iload X23.here hx rfl (hb hby at_166) rfl k9) ?_
            refine own_st (T' := T23) (g' := (mkF m 171 #[.val (.int p1), .val (.int p2), .val (.int p3), .val (.int p4), .val (.int p5), .val (.int x1), .val (.int x2), .val (.int x3), .val (.int x4), .val (.ref b5), .val (.int (Int32.ofNat f)), .val (.int (Int32.ofNat t)), .val (.int (Int32.ofNat q23)), .val (.ref b18), .val (.int (1 : Int32)), .unset] [(.int (1 : Int32))])) (fun t9 k9 => XS.ifNo X23.here hx rfl (hb hby at_168) rfl ((if0 _ _).trans (flt r2).1) k9) ?_
            refine own_st (T' := T23) (g' := (mkF m 172 #[.val (.int p1), .val (.int p2), .val (.int p3), .val (.int p4), .val (.int p5), .val (.int x1), .val (.int x2), .val (.int x3), .val (.int x4), .val (.ref b5), .val (.int (Int32.ofNat f)), .val (.int (Int32.ofNat t)), .val (.int (Int32.ofNat q23)), .val (.ref b18), .val (.int (1 : Int32)), .unset] [(.int (1 : Int32)), (.int (1 : Int32))])) (fun t9 k9 => XS.iconst X23.here hx rfl (hb hby at_171) k9) ?_
            refine own_st (T' := T23) (g' := (mkF m 176 #[.val (.int p1), .val (.int p2), .val (.int p3), .val (.int p4), .val (.int p5), .val (.int x1), .val (.int x2), .val (.int x3), .val (.int x4), .val (.ref b5), .val (.int (Int32.ofNat f)), .val (.int (Int32.ofNat t)), .val (.int (Int32.ofNat q23)), .val (.ref b18), .val (.int (1 : Int32)), .unset] [(.int (1 : Int32)), (.int (1 : Int32))])) (fun t9 k9 => XS.goto X23.here hx rfl (pc0 := 172) (pc' := 176) rfl (hb hby at_172) (by decide) (by decide) k9) ?_
            refine own_st (T' := T23) (g' := (mkF m 181 #[.val (.int p1), .val (.int p2), .val (.int p3), .val (.int p4), .val (.int p5), .val (.int x1), .val (.int x2), .val (.int x3), .val (.int x4), .val (.ref b5), .val (.int (Int32.ofNat f)), .val (.int (Int32.ofNat t)), .val (.int (Int32.ofNat q23)), .val (.ref b18), .val (.int (1 : Int32)), .unset] [])) (fun t9 k9 => XS.icmpYes X23.here hx rfl (pc0 := 176) (pc' := 181) rfl (hb hby at_176) rfl (teq rfl).1 (by decide) (by decide) k9) ?_
            refine own_st (T' := T23) (g' := (mkF m 183 #[.val (.int p1), .val (.int p2), .val (.int p3), .val (.int p4), .val (.int p5), .val (.int x1), .val (.int x2), .val (.int x3), .val (.int x4), .val (.ref b5), .val (.int (Int32.ofNat f)), .val (.int (Int32.ofNat t)), .val (.int (Int32.ofNat q23)), .val (.ref b18), .val (.int (1 : Int32)), .unset] [(.int (1 : Int32))])) (fun t9 k9 => XS.iload X23.here hx rfl (hb hby at_181) rfl k9) ?_
            refine own_st (T' := T23) (g' := (mkF m 186 #[.val (.int p1), .val (.int p2), .val (.int p3), .val (.int p4), .val (.int p5), .val (.int x1), .val (.int x2), .val (.int x3), .val (.int x4), .val (.ref b5), .val (.int (Int32.ofNat f)), .val (.int (Int32.ofNat t)), .val (.int (Int32.ofNat q23)), .val (.ref b18), .val (.int (1 : Int32)), .unset] [])) (fun t9 k9 => XS.ifNo X23.here hx rfl (hb hby at_183) rfl ((if0 _ _).trans (feq (by decide)).1) k9) ?_
            refine own_st (T' := T23) (g' := (mkF m 188 #[.val (.int p1), .val (.int p2), .val (.int p3), .val (.int p4), .val (.int p5), .val (.int x1), .val (.int x2), .val (.int x3), .val (.int x4), .val (.ref b5), .val (.int (Int32.ofNat f)), .val (.int (Int32.ofNat t)), .val (.int (Int32.ofNat q23)), .val (.ref b18), .val (.int (1 : Int32)), .unset] [(.ref b5)])) (fun t9 k9 => XS.aload X23.here hx rfl (hb hby at_186) rfl rfl k9) ?_
            refine own_st (T' := T23) (g' := (mkF m 190 #[.val (.int p1), .val (.int p2), .val (.int p3), .val (.int p4), .val (.int p5), .val (.int x1), .val (.int x2), .val (.int x3), .val (.int x4), .val (.ref b5), .val (.int (Int32.ofNat f)), .val (.int (Int32.ofNat t)), .val (.int (Int32.ofNat q23)), .val (.ref b18), .val (.int (1 : Int32)), .unset] [(.int (Int32.ofNat q23)), (.ref b5)])) (fun t9 k9 => XS.iload X23.here hx rfl (hb hby at_188) rfl k9) ?_
            obtain ⟨clu29, Aru29, qu29, Su29, Nu29, Hu29, Gu29⟩ := (id V13_24)
            have hinu29 := inb_of Su29 (j := (Int32.ofNat q23)) ⟨r2, r3⟩
            refine own_st (T' := T23) (g' := (mkF m 191 #[.val (.int p1), .val (.int p2), .val (.int p3), .val (.int p4), .val (.int p5), .val (.int x1), .val (.int x2), .val (.int x3), .val (.int x4), .val (.ref b5), .val (.int (Int32.ofNat f)), .val (.int (Int32.ofNat t)), .val (.int (Int32.ofNat q23)), .val (.ref b18), .val (.int (1 : Int32)), .unset] [(.int ((own_xs x1 x2 x3 x4) q23))])) (fun t9 k9 => X23.baloadBytes hx (j := (Int32.ofNat q23)) (v := (.int ((own_xs x1 x2 x3 x4) q23))) (by rw [e23]; exact Aru29.1) (State.isArrayOf_alike hZ.alike Aru29.2.1) Aru29.2.2 hinu29 (Hu29.at hinu29 (by rw [r1]; exact hvs _ hc4)) (g := (mkF m 190 #[.val (.int p1), .val (.int p2), .val (.int p3), .val (.int p4), .val (.int p5), .val (.int x1), .val (.int x2), .val (.int x3), .val (.int x4), .val (.ref b5), .val (.int (Int32.ofNat f)), .val (.int (Int32.ofNat t)), .val (.int (Int32.ofNat q23)), .val (.ref b18), .val (.int (1 : Int32)), .unset] [(.int (Int32.ofNat q23)), (.ref b5)])) rfl rfl (hb hby at_190) t9 k9) ?_
            refine own_st (T' := T23) (g' := (mkF m 193 #[.val (.int p1), .val (.int p2), .val (.int p3), .val (.int p4), .val (.int p5), .val (.int x1), .val (.int x2), .val (.int x3), .val (.int x4), .val (.ref b5), .val (.int (Int32.ofNat f)), .val (.int (Int32.ofNat t)), .val (.int (Int32.ofNat q23)), .val (.ref b18), .val (.int (1 : Int32)), .val (.int ((own_xs x1 x2 x3 x4) q23))] [])) (fun t9 k9 => XS.istore X23.here hx rfl (hb hby at_191) rfl (l' := #[.val (.int p1), .val (.int p2), .val (.int p3), .val (.int p4), .val (.int p5), .val (.int x1), .val (.int x2), .val (.int x3), .val (.int x4), .val (.ref b5), .val (.int (Int32.ofNat f)), .val (.int (Int32.ofNat t)), .val (.int (Int32.ofNat q23)), .val (.ref b18), .val (.int (1 : Int32)), .val (.int ((own_xs x1 x2 x3 x4) q23))]) rfl k9) ?_
            refine own_st (T' := T23) (g' := (mkF m 195 #[.val (.int p1), .val (.int p2), .val (.int p3), .val (.int p4), .val (.int p5), .val (.int x1), .val (.int x2), .val (.int x3), .val (.int x4), .val (.ref b5), .val (.int (Int32.ofNat f)), .val (.int (Int32.ofNat t)), .val (.int (Int32.ofNat q23)), .val (.ref b18), .val (.int (1 : Int32)), .val (.int ((own_xs x1 x2 x3 x4) q23))] [(.ref b18)])) (fun t9 k9 => XS.aload X23.here hx rfl (hb hby at_193) rfl rfl k9) ?_
            obtain ⟨cq30, kq30, qa30, qb30, qc30⟩ := isOf hZ e23 A18_25
            obtain ⟨_, _, ⟨T30, L30, k30, n30⟩, -, X30, ⟨Lc30, hQ30, l30, y30, z30⟩, st30⟩ := X23.virtualBack hx (y := (⟨"com/example/tuck/tuck/io/Words", "peek", "()B"⟩ : MethodName)) (z := (⟨"com/example/tuck/tuck/io/Words", "peek", "()B"⟩ : MethodName)) hown (mvT hZ (hw _ (List.mem_of_getElem? (i := 34) rfl))) (mvT hZ (hw _ (List.mem_of_getElem? (i := 35) rfl))) (notFace_of_selects (args := #[]) (mvT hZ (hw _ (List.mem_of_getElem? (i := 37) rfl)))) (mvT hZ (hw _ (List.mem_of_getElem? (i := 37) rfl))) (mvT hZ (hw _ (List.mem_of_getElem? (i := 36) rfl))) (by decide) (own_back (W := 0) (rm8 l Z a0 hw b18 b5 k5 _ ((own_xs x1 x2 x3 x4) q23) q23 h23 n0 Z23 Fl23 Fp23 V13_24 hc4 (hvs _ hc4) (hby8 _ hc4)) hZ (hw _ (List.mem_of_getElem? (i := 38) rfl)) (hw _ (List.mem_of_getElem? (i := 10) rfl)) (by decide) (by decide)) qa30 qc30 (g := (mkF m 195 #[.val (.int p1), .val (.int p2), .val (.int p3), .val (.int p4), .val (.int p5), .val (.int x1), .val (.int x2), .val (.int x3), .val (.int x4), .val (.ref b5), .val (.int (Int32.ofNat f)), .val (.int (Int32.ofNat t)), .val (.int (Int32.ofNat q23)), .val (.ref b18), .val (.int (1 : Int32)), .val (.int ((own_xs x1 x2 x3 x4) q23))] [(.ref b18)])) rfl (by rw [hml]; rfl) (Steps.refl _) (argsL := []) (rest := []) (lenOf pd_6 rfl) rfl (by show 2 * 0 + _ ≤ _; exact Nat.le_of_eq rfl) (hb hby at_195) (fun _ _ => ⟨rfl, e23, (Nat.le_of_ble_eq_true rfl), (Nat.le_of_ble_eq_true rfl)⟩)
            dsimp only [Pt.U, Pt.locs, Pt.cells, Pt.slots] at X30 l30 y30 z30 st30 hQ30
            subst l30 y30 z30
            obtain ⟨rfl, Nq30, he30⟩ := hQ30
            have N30 := Fr.app N23 Nq30
            have e30 : T30.heap = h23 := he30
            refine own_st (T' := T30) (g' := (mkF m 198 #[.val (.int p1), .val (.int p2), .val (.int p3), .val (.int p4), .val (.int p5), .val (.int x1), .val (.int x2), .val (.int x3), .val (.int x4), .val (.ref b5), .val (.int (Int32.ofNat f)), .val (.int (Int32.ofNat t)), .val (.int (Int32.ofNat q23)), .val (.ref b18), .val (.int (1 : Int32)), .val (.int ((own_xs x1 x2 x3 x4) q23))] [(.int ((own_xs x1 x2 x3 x4) q23))])) (fun t9 k9 => st30.trans k9) ?_
            refine own_st (T' := T30) (g' := (mkF m 200 #[.val (.int p1), .val (.int p2), .val (.int p3), .val (.int p4), .val (.int p5), .val (.int x1), .val (.int x2), .val (.int x3), .val (.int x4), .val (.ref b5), .val (.int (Int32.ofNat f)), .val (.int (Int32.ofNat t)), .val (.int (Int32.ofNat q23)), .val (.ref b18), .val (.int (1 : Int32)), .val (.int ((own_xs x1 x2 x3 x4) q23))] [(.int ((own_xs x1 x2 x3 x4) q23)), (.int ((own_xs x1 x2 x3 x4) q23))])) (fun t9 k9 => XS.iload X30.here hx rfl (hb hby at_198) rfl k9) ?_
            refine own_st (T' := T30) (g' := (mkF m 205 #[.val (.int p1), .val (.int p2), .val (.int p3), .val (.int p4), .val (.int p5), .val (.int x1), .val (.int x2), .val (.int x3), .val (.int x4), .val (.ref b5), .val (.int (Int32.ofNat f)), .val (.int (Int32.ofNat t)), .val (.int (Int32.ofNat q23)), .val (.ref b18), .val (.int (1 : Int32)), .val (.int ((own_xs x1 x2 x3 x4) q23))] [])) (fun t9 k9 => XS.icmpYes X30.here hx rfl (pc0 := 200) (pc' := 205) rfl (hb hby at_200) rfl (teq rfl).1 (by decide) (by decide) k9) ?_
            refine own_st (T' := T30) (g' := (mkF m 207 #[.val (.int p1), .val (.int p2), .val (.int p3), .val (.int p4), .val (.int p5), .val (.int x1), .val (.int x2), .val (.int x3), .val (.int x4), .val (.ref b5), .val (.int (Int32.ofNat f)), .val (.int (Int32.ofNat t)), .val (.int (Int32.ofNat q23)), .val (.ref b18), .val (.int (1 : Int32)), .val (.int ((own_xs x1 x2 x3 x4) q23))] [(.ref b18)])) (fun t9 k9 => XS.aload X30.here hx rfl (hb hby at_205) rfl rfl k9) ?_
            obtain ⟨cq31, kq31, qa31, qb31, qc31⟩ := isOf hZ e30 A18_25
            obtain ⟨_, _, ⟨T31, L31, k31, n31⟩, -, X31, ⟨Lc31, hQ31, l31, y31, z31⟩, st31⟩ := X30.virtualBack hx (y := (⟨"com/example/tuck/tuck/io/Words", "hasNext", "()Z"⟩ : MethodName)) (z := (⟨"com/example/tuck/tuck/io/Words", "hasNext", "()Z"⟩ : MethodName)) hown (mvT hZ (hw _ (List.mem_of_getElem? (i := 23) rfl))) (mvT hZ (hw _ (List.mem_of_getElem? (i := 24) rfl))) (notFace_of_selects (args := #[]) (mvT hZ (hw _ (List.mem_of_getElem? (i := 26) rfl)))) (mvT hZ (hw _ (List.mem_of_getElem? (i := 26) rfl))) (mvT hZ (hw _ (List.mem_of_getElem? (i := 25) rfl))) (by decide) (own_back (W := 0) (rm5 l Z a0 hw b18 b5 k5 _ (own_xs x1 x2 x3 x4) q23 t h23 n0 Z23 A18_25 Fl23 Fp23 Fe23 V13_24 ne_b5_b18 g_b18 (by omega) ht4 hvs) hZ (hw _ (List.mem_of_getElem? (i := 27) rfl)) (hw _ (List.mem_of_getElem? (i := 10) rfl)) (by decide) (by decide)) qa31 qc31 (g := (mkF m 207 #[.val (.int p1), .val (.int p2), .val (.int p3), .val (.int p4), .val (.int p5), .val (.int x1), .val (.int x2), .val (.int x3), .val (.int x4), .val (.ref b5), .val (.int (Int32.ofNat f)), .val (.int (Int32.ofNat t)), .val (.int (Int32.ofNat q23)), .val (.ref b18), .val (.int (1 : Int32)), .val (.int ((own_xs x1 x2 x3 x4) q23))] [(.ref b18)])) rfl (by rw [hml]; rfl) (Steps.refl _) (argsL := []) (rest := []) (lenOf pd_4 rfl) rfl (by show 2 * 0 + _ ≤ _; exact Nat.le_of_eq rfl) (hb hby at_207) (fun _ _ => ⟨rfl, e30, (Nat.le_of_ble_eq_true rfl), (Nat.le_of_ble_eq_true rfl)⟩)
            dsimp only [Pt.U, Pt.locs, Pt.cells, Pt.slots] at X31 l31 y31 z31 st31 hQ31
            subst l31 y31 z31
            obtain ⟨q31, z31, rfl, Nq31, Kq31, Eq31, Fl31, Fp31, Fe31, hl31, hu31, ha31, hr31⟩ := hQ31
            have N31 := Fr.app N30 Nq31
            obtain ⟨h31, e31⟩ : ∃ z, T31.heap = z := ⟨_, rfl⟩
            rw [e31] at Kq31 Eq31 Fl31 Fp31 Fe31
            have V13_32 := V13_24.keep Kq31 (ninS ne_b5_b18 nin0)
            have A18_33 := A18_25.keep Kq31
            have K31 := K23.trans Kq31 (allS (Or.inr sz_b18) all0)
            have Z31 : n0 ≤ h31.size := Nat.le_trans Z23 Kq31.1
            refine own_st (T' := T31) (g' := (mkF m 210 #[.val (.int p1), .val (.int p2), .val (.int p3), .val (.int p4), .val (.int p5), .val (.int x1), .val (.int x2), .val (.int x3), .val (.int x4), .val (.ref b5), .val (.int (Int32.ofNat f)), .val (.int (Int32.ofNat t)), .val (.int (Int32.ofNat q23)), .val (.ref b18), .val (.int (1 : Int32)), .val (.int ((own_xs x1 x2 x3 x4) q23))] [(.int z31)])) (fun t9 k9 => st31.trans k9) ?_
            obtain rfl : z31 = 1 := by
              rcases hr31 with ⟨q, -⟩ | q
              · exact absurd (ha31 q23 (Nat.le_refl _) (by omega)) hqn
              · exact q.2.1
            show own_Go p e below F T31 (mkF m 210 #[.val (.int p1), .val (.int p2), .val (.int p3), .val (.int p4), .val (.int p5), .val (.int x1), .val (.int x2), .val (.int x3), .val (.int x4), .val (.ref b5), .val (.int (Int32.ofNat f)), .val (.int (Int32.ofNat t)), .val (.int (Int32.ofNat q23)), .val (.ref b18), .val (.int (1 : Int32)), .val (.int ((own_xs x1 x2 x3 x4) q23))] [(.int (1 : Int32))])
            refine own_st (T' := T31) (g' := (mkF m 212 #[.val (.int p1), .val (.int p2), .val (.int p3), .val (.int p4), .val (.int p5), .val (.int x1), .val (.int x2), .val (.int x3), .val (.int x4), .val (.ref b5), .val (.int (Int32.ofNat f)), .val (.int (Int32.ofNat t)), .val (.int (Int32.ofNat q23)), .val (.ref b18), .val (.int (1 : Int32)), .val (.int (1 : Int32))] [])) (fun t9 k9 => XS.istore X31.here hx rfl (hb hby at_210) rfl (l' := #[.val (.int p1), .val (.int p2), .val (.int p3), .val (.int p4), .val (.int p5), .val (.int x1), .val (.int x2), .val (.int x3), .val (.int x4), .val (.ref b5), .val (.int (Int32.ofNat f)), .val (.int (Int32.ofNat t)), .val (.int (Int32.ofNat q23)), .val (.ref b18), .val (.int (1 : Int32)), .val (.int (1 : Int32))]) rfl k9) ?_
            refine own_st (T' := T31) (g' := (mkF m 214 #[.val (.int p1), .val (.int p2), .val (.int p3), .val (.int p4), .val (.int p5), .val (.int x1), .val (.int x2), .val (.int x3), .val (.int x4), .val (.ref b5), .val (.int (Int32.ofNat f)), .val (.int (Int32.ofNat t)), .val (.int (Int32.ofNat q23)), .val (.ref b18), .val (.int (1 : Int32)), .val (.int (1 : Int32))] [(.int (1 : Int32))])) (fun t9 k9 => XS.iload X31.here hx rfl (hb hby at_212) rfl k9) ?_
            refine own_st (T' := T31) (g' := (mkF m 216 #[.val (.int p1), .val (.int p2), .val (.int p3), .val (.int p4), .val (.int p5), .val (.int x1), .val (.int x2), .val (.int x3), .val (.int x4), .val (.ref b5), .val (.int (Int32.ofNat f)), .val (.int (Int32.ofNat t)), .val (.int (Int32.ofNat q23)), .val (.ref b18), .val (.int (1 : Int32)), .val (.int (1 : Int32))] [(.int (1 : Int32)), (.int (1 : Int32))])) (fun t9 k9 => XS.iload X31.here hx rfl (hb hby at_214) rfl k9) ?_
            refine own_st (T' := T31) (g' := (mkF m 219 #[.val (.int p1), .val (.int p2), .val (.int p3), .val (.int p4), .val (.int p5), .val (.int x1), .val (.int x2), .val (.int x3), .val (.int x4), .val (.ref b5), .val (.int (Int32.ofNat f)), .val (.int (Int32.ofNat t)), .val (.int (Int32.ofNat q23)), .val (.ref b18), .val (.int (1 : Int32)), .val (.int (1 : Int32))] [])) (fun t9 k9 => XS.icmpNo X31.here hx rfl (hb hby at_216) rfl (teq rfl).2 k9) ?_
            refine own_st (T' := T31) (g' := (mkF m 220 #[.val (.int p1), .val (.int p2), .val (.int p3), .val (.int p4), .val (.int p5), .val (.int x1), .val (.int x2), .val (.int x3), .val (.int x4), .val (.ref b5), .val (.int (Int32.ofNat f)), .val (.int (Int32.ofNat t)), .val (.int (Int32.ofNat q23)), .val (.ref b18), .val (.int (1 : Int32)), .val (.int (1 : Int32))] [(.int (1 : Int32))])) (fun t9 k9 => XS.iconst X31.here hx rfl (hb hby at_219) k9) ?_
            refine own_st (T' := T31) (g' := (mkF m 224 #[.val (.int p1), .val (.int p2), .val (.int p3), .val (.int p4), .val (.int p5), .val (.int x1), .val (.int x2), .val (.int x3), .val (.int x4), .val (.ref b5), .val (.int (Int32.ofNat f)), .val (.int (Int32.ofNat t)), .val (.int (Int32.ofNat q23)), .val (.ref b18), .val (.int (1 : Int32)), .val (.int (1 : Int32))] [(.int (1 : Int32))])) (fun t9 k9 => XS.goto X31.here hx rfl (pc0 := 220) (pc' := 224) rfl (hb hby at_220) (by decide) (by decide) k9) ?_
            refine own_ret (v := some (.int (1 : Int32))) hF X31 (own_some hret) hlk (fun fs hr => retN X31 hx (t := .boolean) hret (by simp) (hb hby at_224) hr) ?_ (by decide) (by decide)
            try rw [e31]
            exact ⟨rfl, N31⟩
        refine own_st (T' := T16) (g' := (mkF m 127 #[.val (.int p1), .val (.int p2), .val (.int p3), .val (.int p4), .val (.int p5), .val (.int x1), .val (.int x2), .val (.int x3), .val (.int x4), .val (.ref b5), .val (.int (Int32.ofNat f)), .val (.int (Int32.ofNat t)), .val (.int y1), .unset, .unset, .unset] [(.int (0 : Int32))])) (fun t9 k9 => XS.iconst X16.here hx rfl (hb hby at_126) k9) ?_
        refine own_st (T' := T16) (g' := (mkF m 129 #[.val (.int p1), .val (.int p2), .val (.int p3), .val (.int p4), .val (.int p5), .val (.int x1), .val (.int x2), .val (.int x3), .val (.int x4), .val (.ref b5), .val (.int (Int32.ofNat f)), .val (.int (Int32.ofNat t)), .val (.int y1), .unset, .unset, .unset] [(.int (Int32.ofNat f)), (.int (0 : Int32))])) (fun t9 k9 => XS.iload X16.here hx rfl (hb hby at_127) rfl k9) ?_
        refine own_st (T' := T16) (g' := (mkF m 131 #[.val (.int p1), .val (.int p2), .val (.int p3), .val (.int p4), .val (.int p5), .val (.int x1), .val (.int x2), .val (.int x3), .val (.int x4), .val (.ref b5), .val (.int (Int32.ofNat f)), .val (.int (Int32.ofNat t)), .val (.int y1), .unset, .unset, .unset] [(.int (Int32.ofNat t)), (.int (Int32.ofNat f)), (.int (0 : Int32))])) (fun t9 k9 => XS.iload X16.here hx rfl (hb hby at_129) rfl k9) ?_
        refine own_st (T' := T16) (g' := (mkF m 133 #[.val (.int p1), .val (.int p2), .val (.int p3), .val (.int p4), .val (.int p5), .val (.int x1), .val (.int x2), .val (.int x3), .val (.int x4), .val (.ref b5), .val (.int (Int32.ofNat f)), .val (.int (Int32.ofNat t)), .val (.int y1), .unset, .unset, .unset] [(.int x1), (.int (Int32.ofNat t)), (.int (Int32.ofNat f)), (.int (0 : Int32))])) (fun t9 k9 => XS.iload X16.here hx rfl (hb hby at_131) rfl k9) ?_
        obtain ⟨_, _, ⟨T34, L34, k34, n34⟩, -, X34, ⟨Lc34, hQ34, l34, y34, z34⟩, st34⟩ := Jvm.LawKit.callS X16 hx (y := (⟨"com/example/tuck/tuck/io/WordsHasNextPinLaw", "counts", "(IIIB)Z"⟩ : MethodName)) hown (mvT hZ (hw _ (List.mem_of_getElem? (i := 5) rfl))) (mvT hZ (hw _ (List.mem_of_getElem? (i := 6) rfl))) (mvT hZ (hw _ (List.mem_of_getElem? (i := 2) rfl))) (mvT hZ (hw _ (List.mem_of_getElem? (i := 7) rfl))) (by decide) (own_back (W := 0) (rm2 l Z a0 hw (0 : Int32) (Int32.ofNat f) (Int32.ofNat t) x1 h13 n0 Z13) hZ (hw _ (List.mem_of_getElem? (i := 7) rfl)) (hw _ (List.mem_of_getElem? (i := 2) rfl)) (by decide) (by decide)) (g := (mkF m 133 #[.val (.int p1), .val (.int p2), .val (.int p3), .val (.int p4), .val (.int p5), .val (.int x1), .val (.int x2), .val (.int x3), .val (.int x4), .val (.ref b5), .val (.int (Int32.ofNat f)), .val (.int (Int32.ofNat t)), .val (.int y1), .unset, .unset, .unset] [(.int x1), (.int (Int32.ofNat t)), (.int (Int32.ofNat f)), (.int (0 : Int32))])) rfl (by rw [hml]; rfl) (argsL := [(.int (0 : Int32)), (.int (Int32.ofNat f)), (.int (Int32.ofNat t)), (.int x1)]) (rest := []) (lenOf pd_1 rfl) rfl (by show 2 * 0 + _ ≤ _; exact Nat.le_of_eq rfl) (hb hby at_133) (fun _ _ => ⟨rfl, e16, (Nat.le_of_ble_eq_true rfl), (Nat.le_of_ble_eq_true rfl)⟩)
        dsimp only [Pt.U, Pt.locs, Pt.cells, Pt.slots] at X34 l34 y34 z34 st34 hQ34
        subst l34 y34 z34
        obtain ⟨z34, rfl, Nq34, he34, hB34⟩ := hQ34
        have N34 := Fr.app N16 Nq34
        have e34 : T34.heap = h13 := he34
        refine own_st (T' := T34) (g' := (mkF m 136 #[.val (.int p1), .val (.int p2), .val (.int p3), .val (.int p4), .val (.int p5), .val (.int x1), .val (.int x2), .val (.int x3), .val (.int x4), .val (.ref b5), .val (.int (Int32.ofNat f)), .val (.int (Int32.ofNat t)), .val (.int y1), .unset, .unset, .unset] [(.int z34)])) (fun t9 k9 => st34 t9 k9) ?_
        by_cases hz0 : z34 = (0 : Int32)
        · refine own_st (T' := T34) (g' := (mkF m 142 #[.val (.int p1), .val (.int p2), .val (.int p3), .val (.int p4), .val (.int p5), .val (.int x1), .val (.int x2), .val (.int x3), .val (.int x4), .val (.ref b5), .val (.int (Int32.ofNat f)), .val (.int (Int32.ofNat t)), .val (.int y1), .unset, .unset, .unset] [])) (fun t9 k9 => XS.ifYes X34.here hx rfl (pc0 := 136) (pc' := 142) rfl (hb hby at_136) rfl ((if0 _ _).trans (teq hz0).1) (by decide) (by decide) k9) ?_
          exact jy0 _ _ _ X34 e34 N34 (own_PF.skip (i := 0) (z := z34) hy1 (by omega) ht4 (by decide) (by decide) hB34 hz0)
        · refine own_st (T' := T34) (g' := (mkF m 139 #[.val (.int p1), .val (.int p2), .val (.int p3), .val (.int p4), .val (.int p5), .val (.int x1), .val (.int x2), .val (.int x3), .val (.int x4), .val (.ref b5), .val (.int (Int32.ofNat f)), .val (.int (Int32.ofNat t)), .val (.int y1), .unset, .unset, .unset] [])) (fun t9 k9 => XS.ifNo X34.here hx rfl (hb hby at_136) rfl ((if0 _ _).trans (feq hz0).1) k9) ?_
          refine own_st (T' := T34) (g' := (mkF m 140 #[.val (.int p1), .val (.int p2), .val (.int p3), .val (.int p4), .val (.int p5), .val (.int x1), .val (.int x2), .val (.int x3), .val (.int x4), .val (.ref b5), .val (.int (Int32.ofNat f)), .val (.int (Int32.ofNat t)), .val (.int y1), .unset, .unset, .unset] [(.int (0 : Int32))])) (fun t9 k9 => XS.iconst X34.here hx rfl (hb hby at_139) k9) ?_
          refine own_st (T' := T34) (g' := (mkF m 142 #[.val (.int p1), .val (.int p2), .val (.int p3), .val (.int p4), .val (.int p5), .val (.int x1), .val (.int x2), .val (.int x3), .val (.int x4), .val (.ref b5), .val (.int (Int32.ofNat f)), .val (.int (Int32.ofNat t)), .val (.int (0 : Int32)), .unset, .unset, .unset] [])) (fun t9 k9 => XS.istore X34.here hx rfl (hb hby at_140) rfl (l' := #[.val (.int p1), .val (.int p2), .val (.int p3), .val (.int p4), .val (.int p5), .val (.int x1), .val (.int x2), .val (.int x3), .val (.int x4), .val (.ref b5), .val (.int (Int32.ofNat f)), .val (.int (Int32.ofNat t)), .val (.int (0 : Int32)), .unset, .unset, .unset]) rfl k9) ?_
          exact jy0 _ _ _ X34 e34 N34 (own_PF.hit (i := 0) (z := z34) (xs := (own_xs x1 x2 x3 x4)) (by omega) ht4 (by decide) (by decide) hB34 hz0)
      refine own_st (T' := T15) (g' := (mkF m 111 #[.val (.int p1), .val (.int p2), .val (.int p3), .val (.int p4), .val (.int p5), .val (.int x1), .val (.int x2), .val (.int x3), .val (.int x4), .val (.ref b5), .val (.int (Int32.ofNat f)), .val (.int (Int32.ofNat t)), .val (.int y2), .unset, .unset, .unset] [(.int (1 : Int32))])) (fun t9 k9 => XS.iconst X15.here hx rfl (hb hby at_110) k9) ?_
      refine own_st (T' := T15) (g' := (mkF m 113 #[.val (.int p1), .val (.int p2), .val (.int p3), .val (.int p4), .val (.int p5), .val (.int x1), .val (.int x2), .val (.int x3), .val (.int x4), .val (.ref b5), .val (.int (Int32.ofNat f)), .val (.int (Int32.ofNat t)), .val (.int y2), .unset, .unset, .unset] [(.int (Int32.ofNat f)), (.int (1 : Int32))])) (fun t9 k9 => XS.iload X15.here hx rfl (hb hby at_111) rfl k9) ?_
      refine own_st (T' := T15) (g' := (mkF m 115 #[.val (.int p1), .val (.int p2), .val (.int p3), .val (.int p4), .val (.int p5), .val (.int x1), .val (.int x2), .val (.int x3), .val (.int x4), .val (.ref b5), .val (.int (Int32.ofNat f)), .val (.int (Int32.ofNat t)), .val (.int y2), .unset, .unset, .unset] [(.int (Int32.ofNat t)), (.int (Int32.ofNat f)), (.int (1 : Int32))])) (fun t9 k9 => XS.iload X15.here hx rfl (hb hby at_113) rfl k9) ?_
      refine own_st (T' := T15) (g' := (mkF m 117 #[.val (.int p1), .val (.int p2), .val (.int p3), .val (.int p4), .val (.int p5), .val (.int x1), .val (.int x2), .val (.int x3), .val (.int x4), .val (.ref b5), .val (.int (Int32.ofNat f)), .val (.int (Int32.ofNat t)), .val (.int y2), .unset, .unset, .unset] [(.int x2), (.int (Int32.ofNat t)), (.int (Int32.ofNat f)), (.int (1 : Int32))])) (fun t9 k9 => XS.iload X15.here hx rfl (hb hby at_115) rfl k9) ?_
      obtain ⟨_, _, ⟨T35, L35, k35, n35⟩, -, X35, ⟨Lc35, hQ35, l35, y35, z35⟩, st35⟩ := Jvm.LawKit.callS X15 hx (y := (⟨"com/example/tuck/tuck/io/WordsHasNextPinLaw", "counts", "(IIIB)Z"⟩ : MethodName)) hown (mvT hZ (hw _ (List.mem_of_getElem? (i := 5) rfl))) (mvT hZ (hw _ (List.mem_of_getElem? (i := 6) rfl))) (mvT hZ (hw _ (List.mem_of_getElem? (i := 2) rfl))) (mvT hZ (hw _ (List.mem_of_getElem? (i := 7) rfl))) (by decide) (own_back (W := 0) (rm2 l Z a0 hw (1 : Int32) (Int32.ofNat f) (Int32.ofNat t) x2 h13 n0 Z13) hZ (hw _ (List.mem_of_getElem? (i := 7) rfl)) (hw _ (List.mem_of_getElem? (i := 2) rfl)) (by decide) (by decide)) (g := (mkF m 117 #[.val (.int p1), .val (.int p2), .val (.int p3), .val (.int p4), .val (.int p5), .val (.int x1), .val (.int x2), .val (.int x3), .val (.int x4), .val (.ref b5), .val (.int (Int32.ofNat f)), .val (.int (Int32.ofNat t)), .val (.int y2), .unset, .unset, .unset] [(.int x2), (.int (Int32.ofNat t)), (.int (Int32.ofNat f)), (.int (1 : Int32))])) rfl (by rw [hml]; rfl) (argsL := [(.int (1 : Int32)), (.int (Int32.ofNat f)), (.int (Int32.ofNat t)), (.int x2)]) (rest := []) (lenOf pd_1 rfl) rfl (by show 2 * 0 + _ ≤ _; exact Nat.le_of_eq rfl) (hb hby at_117) (fun _ _ => ⟨rfl, e15, (Nat.le_of_ble_eq_true rfl), (Nat.le_of_ble_eq_true rfl)⟩)
      dsimp only [Pt.U, Pt.locs, Pt.cells, Pt.slots] at X35 l35 y35 z35 st35 hQ35
      subst l35 y35 z35
      obtain ⟨z35, rfl, Nq35, he35, hB35⟩ := hQ35
      have N35 := Fr.app N15 Nq35
      have e35 : T35.heap = h13 := he35
      refine own_st (T' := T35) (g' := (mkF m 120 #[.val (.int p1), .val (.int p2), .val (.int p3), .val (.int p4), .val (.int p5), .val (.int x1), .val (.int x2), .val (.int x3), .val (.int x4), .val (.ref b5), .val (.int (Int32.ofNat f)), .val (.int (Int32.ofNat t)), .val (.int y2), .unset, .unset, .unset] [(.int z35)])) (fun t9 k9 => st35 t9 k9) ?_
      by_cases hz1 : z35 = (0 : Int32)
      · refine own_st (T' := T35) (g' := (mkF m 126 #[.val (.int p1), .val (.int p2), .val (.int p3), .val (.int p4), .val (.int p5), .val (.int x1), .val (.int x2), .val (.int x3), .val (.int x4), .val (.ref b5), .val (.int (Int32.ofNat f)), .val (.int (Int32.ofNat t)), .val (.int y2), .unset, .unset, .unset] [])) (fun t9 k9 => XS.ifYes X35.here hx rfl (pc0 := 120) (pc' := 126) rfl (hb hby at_120) rfl ((if0 _ _).trans (teq hz1).1) (by decide) (by decide) k9) ?_
        exact jy1 _ _ _ X35 e35 N35 (own_PF.skip (i := 1) (z := z35) hy2 (by omega) ht4 (by decide) (by decide) hB35 hz1)
      · refine own_st (T' := T35) (g' := (mkF m 123 #[.val (.int p1), .val (.int p2), .val (.int p3), .val (.int p4), .val (.int p5), .val (.int x1), .val (.int x2), .val (.int x3), .val (.int x4), .val (.ref b5), .val (.int (Int32.ofNat f)), .val (.int (Int32.ofNat t)), .val (.int y2), .unset, .unset, .unset] [])) (fun t9 k9 => XS.ifNo X35.here hx rfl (hb hby at_120) rfl ((if0 _ _).trans (feq hz1).1) k9) ?_
        refine own_st (T' := T35) (g' := (mkF m 124 #[.val (.int p1), .val (.int p2), .val (.int p3), .val (.int p4), .val (.int p5), .val (.int x1), .val (.int x2), .val (.int x3), .val (.int x4), .val (.ref b5), .val (.int (Int32.ofNat f)), .val (.int (Int32.ofNat t)), .val (.int y2), .unset, .unset, .unset] [(.int (1 : Int32))])) (fun t9 k9 => XS.iconst X35.here hx rfl (hb hby at_123) k9) ?_
        refine own_st (T' := T35) (g' := (mkF m 126 #[.val (.int p1), .val (.int p2), .val (.int p3), .val (.int p4), .val (.int p5), .val (.int x1), .val (.int x2), .val (.int x3), .val (.int x4), .val (.ref b5), .val (.int (Int32.ofNat f)), .val (.int (Int32.ofNat t)), .val (.int (1 : Int32)), .unset, .unset, .unset] [])) (fun t9 k9 => XS.istore X35.here hx rfl (hb hby at_124) rfl (l' := #[.val (.int p1), .val (.int p2), .val (.int p3), .val (.int p4), .val (.int p5), .val (.int x1), .val (.int x2), .val (.int x3), .val (.int x4), .val (.ref b5), .val (.int (Int32.ofNat f)), .val (.int (Int32.ofNat t)), .val (.int (1 : Int32)), .unset, .unset, .unset]) rfl k9) ?_
        exact jy1 _ _ _ X35 e35 N35 (own_PF.hit (i := 1) (z := z35) (xs := (own_xs x1 x2 x3 x4)) (by omega) ht4 (by decide) (by decide) hB35 hz1)
    refine own_st (T' := T14) (g' := (mkF m 95 #[.val (.int p1), .val (.int p2), .val (.int p3), .val (.int p4), .val (.int p5), .val (.int x1), .val (.int x2), .val (.int x3), .val (.int x4), .val (.ref b5), .val (.int (Int32.ofNat f)), .val (.int (Int32.ofNat t)), .val (.int y3), .unset, .unset, .unset] [(.int (2 : Int32))])) (fun t9 k9 => XS.iconst X14.here hx rfl (hb hby at_94) k9) ?_
    refine own_st (T' := T14) (g' := (mkF m 97 #[.val (.int p1), .val (.int p2), .val (.int p3), .val (.int p4), .val (.int p5), .val (.int x1), .val (.int x2), .val (.int x3), .val (.int x4), .val (.ref b5), .val (.int (Int32.ofNat f)), .val (.int (Int32.ofNat t)), .val (.int y3), .unset, .unset, .unset] [(.int (Int32.ofNat f)), (.int (2 : Int32))])) (fun t9 k9 => XS.iload X14.here hx rfl (hb hby at_95) rfl k9) ?_
    refine own_st (T' := T14) (g' := (mkF m 99 #[.val (.int p1), .val (.int p2), .val (.int p3), .val (.int p4), .val (.int p5), .val (.int x1), .val (.int x2), .val (.int x3), .val (.int x4), .val (.ref b5), .val (.int (Int32.ofNat f)), .val (.int (Int32.ofNat t)), .val (.int y3), .unset, .unset, .unset] [(.int (Int32.ofNat t)), (.int (Int32.ofNat f)), (.int (2 : Int32))])) (fun t9 k9 => XS.iload X14.here hx rfl (hb hby at_97) rfl k9) ?_
    refine own_st (T' := T14) (g' := (mkF m 101 #[.val (.int p1), .val (.int p2), .val (.int p3), .val (.int p4), .val (.int p5), .val (.int x1), .val (.int x2), .val (.int x3), .val (.int x4), .val (.ref b5), .val (.int (Int32.ofNat f)), .val (.int (Int32.ofNat t)), .val (.int y3), .unset, .unset, .unset] [(.int x3), (.int (Int32.ofNat t)), (.int (Int32.ofNat f)), (.int (2 : Int32))])) (fun t9 k9 => XS.iload X14.here hx rfl (hb hby at_99) rfl k9) ?_
    obtain ⟨_, _, ⟨T36, L36, k36, n36⟩, -, X36, ⟨Lc36, hQ36, l36, y36, z36⟩, st36⟩ := Jvm.LawKit.callS X14 hx (y := (⟨"com/example/tuck/tuck/io/WordsHasNextPinLaw", "counts", "(IIIB)Z"⟩ : MethodName)) hown (mvT hZ (hw _ (List.mem_of_getElem? (i := 5) rfl))) (mvT hZ (hw _ (List.mem_of_getElem? (i := 6) rfl))) (mvT hZ (hw _ (List.mem_of_getElem? (i := 2) rfl))) (mvT hZ (hw _ (List.mem_of_getElem? (i := 7) rfl))) (by decide) (own_back (W := 0) (rm2 l Z a0 hw (2 : Int32) (Int32.ofNat f) (Int32.ofNat t) x3 h13 n0 Z13) hZ (hw _ (List.mem_of_getElem? (i := 7) rfl)) (hw _ (List.mem_of_getElem? (i := 2) rfl)) (by decide) (by decide)) (g := (mkF m 101 #[.val (.int p1), .val (.int p2), .val (.int p3), .val (.int p4), .val (.int p5), .val (.int x1), .val (.int x2), .val (.int x3), .val (.int x4), .val (.ref b5), .val (.int (Int32.ofNat f)), .val (.int (Int32.ofNat t)), .val (.int y3), .unset, .unset, .unset] [(.int x3), (.int (Int32.ofNat t)), (.int (Int32.ofNat f)), (.int (2 : Int32))])) rfl (by rw [hml]; rfl) (argsL := [(.int (2 : Int32)), (.int (Int32.ofNat f)), (.int (Int32.ofNat t)), (.int x3)]) (rest := []) (lenOf pd_1 rfl) rfl (by show 2 * 0 + _ ≤ _; exact Nat.le_of_eq rfl) (hb hby at_101) (fun _ _ => ⟨rfl, e14, (Nat.le_of_ble_eq_true rfl), (Nat.le_of_ble_eq_true rfl)⟩)
    dsimp only [Pt.U, Pt.locs, Pt.cells, Pt.slots] at X36 l36 y36 z36 st36 hQ36
    subst l36 y36 z36
    obtain ⟨z36, rfl, Nq36, he36, hB36⟩ := hQ36
    have N36 := Fr.app N14 Nq36
    have e36 : T36.heap = h13 := he36
    refine own_st (T' := T36) (g' := (mkF m 104 #[.val (.int p1), .val (.int p2), .val (.int p3), .val (.int p4), .val (.int p5), .val (.int x1), .val (.int x2), .val (.int x3), .val (.int x4), .val (.ref b5), .val (.int (Int32.ofNat f)), .val (.int (Int32.ofNat t)), .val (.int y3), .unset, .unset, .unset] [(.int z36)])) (fun t9 k9 => st36 t9 k9) ?_
    by_cases hz2 : z36 = (0 : Int32)
    · refine own_st (T' := T36) (g' := (mkF m 110 #[.val (.int p1), .val (.int p2), .val (.int p3), .val (.int p4), .val (.int p5), .val (.int x1), .val (.int x2), .val (.int x3), .val (.int x4), .val (.ref b5), .val (.int (Int32.ofNat f)), .val (.int (Int32.ofNat t)), .val (.int y3), .unset, .unset, .unset] [])) (fun t9 k9 => XS.ifYes X36.here hx rfl (pc0 := 104) (pc' := 110) rfl (hb hby at_104) rfl ((if0 _ _).trans (teq hz2).1) (by decide) (by decide) k9) ?_
      exact jy2 _ _ _ X36 e36 N36 (own_PF.skip (i := 2) (z := z36) hy3 (by omega) ht4 (by decide) (by decide) hB36 hz2)
    · refine own_st (T' := T36) (g' := (mkF m 107 #[.val (.int p1), .val (.int p2), .val (.int p3), .val (.int p4), .val (.int p5), .val (.int x1), .val (.int x2), .val (.int x3), .val (.int x4), .val (.ref b5), .val (.int (Int32.ofNat f)), .val (.int (Int32.ofNat t)), .val (.int y3), .unset, .unset, .unset] [])) (fun t9 k9 => XS.ifNo X36.here hx rfl (hb hby at_104) rfl ((if0 _ _).trans (feq hz2).1) k9) ?_
      refine own_st (T' := T36) (g' := (mkF m 108 #[.val (.int p1), .val (.int p2), .val (.int p3), .val (.int p4), .val (.int p5), .val (.int x1), .val (.int x2), .val (.int x3), .val (.int x4), .val (.ref b5), .val (.int (Int32.ofNat f)), .val (.int (Int32.ofNat t)), .val (.int y3), .unset, .unset, .unset] [(.int (2 : Int32))])) (fun t9 k9 => XS.iconst X36.here hx rfl (hb hby at_107) k9) ?_
      refine own_st (T' := T36) (g' := (mkF m 110 #[.val (.int p1), .val (.int p2), .val (.int p3), .val (.int p4), .val (.int p5), .val (.int x1), .val (.int x2), .val (.int x3), .val (.int x4), .val (.ref b5), .val (.int (Int32.ofNat f)), .val (.int (Int32.ofNat t)), .val (.int (2 : Int32)), .unset, .unset, .unset] [])) (fun t9 k9 => XS.istore X36.here hx rfl (hb hby at_108) rfl (l' := #[.val (.int p1), .val (.int p2), .val (.int p3), .val (.int p4), .val (.int p5), .val (.int x1), .val (.int x2), .val (.int x3), .val (.int x4), .val (.ref b5), .val (.int (Int32.ofNat f)), .val (.int (Int32.ofNat t)), .val (.int (2 : Int32)), .unset, .unset, .unset]) rfl k9) ?_
      exact jy2 _ _ _ X36 e36 N36 (own_PF.hit (i := 2) (z := z36) (xs := (own_xs x1 x2 x3 x4)) (by omega) ht4 (by decide) (by decide) hB36 hz2)
  refine own_st (T' := T13) (g' := (mkF m 79 #[.val (.int p1), .val (.int p2), .val (.int p3), .val (.int p4), .val (.int p5), .val (.int x1), .val (.int x2), .val (.int x3), .val (.int x4), .val (.ref b5), .val (.int (Int32.ofNat f)), .val (.int (Int32.ofNat t)), .val (.int (-1 : Int32)), .unset, .unset, .unset] [(.int (3 : Int32))])) (fun t9 k9 => XS.iconst X13.here hx rfl (hb hby at_78) k9) ?_
  refine own_st (T' := T13) (g' := (mkF m 81 #[.val (.int p1), .val (.int p2), .val (.int p3), .val (.int p4), .val (.int p5), .val (.int x1), .val (.int x2), .val (.int x3), .val (.int x4), .val (.ref b5), .val (.int (Int32.ofNat f)), .val (.int (Int32.ofNat t)), .val (.int (-1 : Int32)), .unset, .unset, .unset] [(.int (Int32.ofNat f)), (.int (3 : Int32))])) (fun t9 k9 => XS.iload X13.here hx rfl (hb hby at_79) rfl k9) ?_
  refine own_st (T' := T13) (g' := (mkF m 83 #[.val (.int p1), .val (.int p2), .val (.int p3), .val (.int p4), .val (.int p5), .val (.int x1), .val (.int x2), .val (.int x3), .val (.int x4), .val (.ref b5), .val (.int (Int32.ofNat f)), .val (.int (Int32.ofNat t)), .val (.int (-1 : Int32)), .unset, .unset, .unset] [(.int (Int32.ofNat t)), (.int (Int32.ofNat f)), (.int (3 : Int32))])) (fun t9 k9 => XS.iload X13.here hx rfl (hb hby at_81) rfl k9) ?_
  refine own_st (T' := T13) (g' := (mkF m 85 #[.val (.int p1), .val (.int p2), .val (.int p3), .val (.int p4), .val (.int p5), .val (.int x1), .val (.int x2), .val (.int x3), .val (.int x4), .val (.ref b5), .val (.int (Int32.ofNat f)), .val (.int (Int32.ofNat t)), .val (.int (-1 : Int32)), .unset, .unset, .unset] [(.int x4), (.int (Int32.ofNat t)), (.int (Int32.ofNat f)), (.int (3 : Int32))])) (fun t9 k9 => XS.iload X13.here hx rfl (hb hby at_83) rfl k9) ?_
  obtain ⟨_, _, ⟨T37, L37, k37, n37⟩, -, X37, ⟨Lc37, hQ37, l37, y37, z37⟩, st37⟩ := Jvm.LawKit.callS X13 hx (y := (⟨"com/example/tuck/tuck/io/WordsHasNextPinLaw", "counts", "(IIIB)Z"⟩ : MethodName)) hown (mvT hZ (hw _ (List.mem_of_getElem? (i := 5) rfl))) (mvT hZ (hw _ (List.mem_of_getElem? (i := 6) rfl))) (mvT hZ (hw _ (List.mem_of_getElem? (i := 2) rfl))) (mvT hZ (hw _ (List.mem_of_getElem? (i := 7) rfl))) (by decide) (own_back (W := 0) (rm2 l Z a0 hw (3 : Int32) (Int32.ofNat f) (Int32.ofNat t) x4 h13 n0 Z13) hZ (hw _ (List.mem_of_getElem? (i := 7) rfl)) (hw _ (List.mem_of_getElem? (i := 2) rfl)) (by decide) (by decide)) (g := (mkF m 85 #[.val (.int p1), .val (.int p2), .val (.int p3), .val (.int p4), .val (.int p5), .val (.int x1), .val (.int x2), .val (.int x3), .val (.int x4), .val (.ref b5), .val (.int (Int32.ofNat f)), .val (.int (Int32.ofNat t)), .val (.int (-1 : Int32)), .unset, .unset, .unset] [(.int x4), (.int (Int32.ofNat t)), (.int (Int32.ofNat f)), (.int (3 : Int32))])) rfl (by rw [hml]; rfl) (argsL := [(.int (3 : Int32)), (.int (Int32.ofNat f)), (.int (Int32.ofNat t)), (.int x4)]) (rest := []) (lenOf pd_1 rfl) rfl (by show 2 * 0 + _ ≤ _; exact Nat.le_of_eq rfl) (hb hby at_85) (fun _ _ => ⟨rfl, e13, (Nat.le_of_ble_eq_true rfl), (Nat.le_of_ble_eq_true rfl)⟩)
  dsimp only [Pt.U, Pt.locs, Pt.cells, Pt.slots] at X37 l37 y37 z37 st37 hQ37
  subst l37 y37 z37
  obtain ⟨z37, rfl, Nq37, he37, hB37⟩ := hQ37
  have N37 := Fr.app N13 Nq37
  have e37 : T37.heap = h13 := he37
  refine own_st (T' := T37) (g' := (mkF m 88 #[.val (.int p1), .val (.int p2), .val (.int p3), .val (.int p4), .val (.int p5), .val (.int x1), .val (.int x2), .val (.int x3), .val (.int x4), .val (.ref b5), .val (.int (Int32.ofNat f)), .val (.int (Int32.ofNat t)), .val (.int (-1 : Int32)), .unset, .unset, .unset] [(.int z37)])) (fun t9 k9 => st37 t9 k9) ?_
  by_cases hz3 : z37 = (0 : Int32)
  · refine own_st (T' := T37) (g' := (mkF m 94 #[.val (.int p1), .val (.int p2), .val (.int p3), .val (.int p4), .val (.int p5), .val (.int x1), .val (.int x2), .val (.int x3), .val (.int x4), .val (.ref b5), .val (.int (Int32.ofNat f)), .val (.int (Int32.ofNat t)), .val (.int (-1 : Int32)), .unset, .unset, .unset] [])) (fun t9 k9 => XS.ifYes X37.here hx rfl (pc0 := 88) (pc' := 94) rfl (hb hby at_88) rfl ((if0 _ _).trans (teq hz3).1) (by decide) (by decide) k9) ?_
    exact jy3 _ _ _ X37 e37 N37 (own_PF.skip (i := 3) (z := z37) (own_PF.none _ f t) (by omega) ht4 (by decide) (by decide) hB37 hz3)
  · refine own_st (T' := T37) (g' := (mkF m 91 #[.val (.int p1), .val (.int p2), .val (.int p3), .val (.int p4), .val (.int p5), .val (.int x1), .val (.int x2), .val (.int x3), .val (.int x4), .val (.ref b5), .val (.int (Int32.ofNat f)), .val (.int (Int32.ofNat t)), .val (.int (-1 : Int32)), .unset, .unset, .unset] [])) (fun t9 k9 => XS.ifNo X37.here hx rfl (hb hby at_88) rfl ((if0 _ _).trans (feq hz3).1) k9) ?_
    refine own_st (T' := T37) (g' := (mkF m 92 #[.val (.int p1), .val (.int p2), .val (.int p3), .val (.int p4), .val (.int p5), .val (.int x1), .val (.int x2), .val (.int x3), .val (.int x4), .val (.ref b5), .val (.int (Int32.ofNat f)), .val (.int (Int32.ofNat t)), .val (.int (-1 : Int32)), .unset, .unset, .unset] [(.int (3 : Int32))])) (fun t9 k9 => XS.iconst X37.here hx rfl (hb hby at_91) k9) ?_
    refine own_st (T' := T37) (g' := (mkF m 94 #[.val (.int p1), .val (.int p2), .val (.int p3), .val (.int p4), .val (.int p5), .val (.int x1), .val (.int x2), .val (.int x3), .val (.int x4), .val (.ref b5), .val (.int (Int32.ofNat f)), .val (.int (Int32.ofNat t)), .val (.int (3 : Int32)), .unset, .unset, .unset] [])) (fun t9 k9 => XS.istore X37.here hx rfl (hb hby at_92) rfl (l' := #[.val (.int p1), .val (.int p2), .val (.int p3), .val (.int p4), .val (.int p5), .val (.int x1), .val (.int x2), .val (.int x3), .val (.int x4), .val (.ref b5), .val (.int (Int32.ofNat f)), .val (.int (Int32.ofNat t)), .val (.int (3 : Int32)), .unset, .unset, .unset]) rfl k9) ?_
    exact jy3 _ _ _ X37 e37 N37 (own_PF.hit (i := 3) (z := z37) (xs := (own_xs x1 x2 x3 x4)) (by omega) ht4 (by decide) (by decide) hB37 hz3)
set_option maxRecDepth 65536 in
set_option maxHeartbeats 40000000 in
theorem comes_1 {Post : Tables → Env → Array Value → State → Outcome → State → Prop} (hpost : ∀ tb e args s v u, (limb_1_1.after args s (.returned v) u = true ∧ limb_1_2.after args s (.returned v) u = true ∧ True) → FrameEnd s (.returned v) u (Jvm.fieldLocs frame_1_writes args s ++ Jvm.arrayLocs frame_1_arrays args s ++ Jvm.staticLocs frame_1_statics s) 16 128 → Post tb e args s (.returned v) u) :
    ArmFor flags0 classFile x code maxLocals ret World_1 tables_1 room_1 Calls_1 rest_1 Pre_1 Post := by
  intro l hfl _ _ p e ha hc hk s m args below hf hA hF happ hP
  obtain ⟨hcalls, hrest, hpre⟩ := hP
  obtain ⟨-, -, -, hnamed, -, -, -, hat⟩ := (Spec.applies_iff hf).mp happ
  obtain ⟨hg, hn⟩ := and_e (Cond.before_iff.mp (show (Jvm.Cond.and given_1 narrow_1).before args s = true from hpre))
  obtain ⟨ga0, gb0⟩ := and_e hg
  obtain ⟨ga1, gb1⟩ := and_e gb0
  obtain ⟨ga2, gb2⟩ := and_e gb1
  obtain ⟨ga3, gb3⟩ := and_e gb2
  obtain ⟨ga4, gb4⟩ := and_e gb3
  obtain ⟨w0, w1, w2, w3, w4, rfl⟩ : ∃ w0 w1 w2 w3 w4 : Value, args = #[w0, w1, w2, w3, w4] := by
    have hs : args.size = 5 := by simpa [Cond.value, given_1] using ga0
    obtain ⟨L⟩ := args
    match L, hs with
    | [w0, w1, w2, w3, w4], _ => exact ⟨w0, w1, w2, w3, w4, rfl⟩
  have hw := fun d (hd : d ∈ tables_1) => atoms_spec (ws := Jvm.Cond.code x code maxLocals ret :: tables_1) hat d (List.mem_cons_of_mem _ hd)
  have hfit : Fit s := fun {y c} hc i hi => by
    obtain ⟨ha, rfl⟩ := Array.getElem?_eq_some_iff.mp hc
    have q := List.all_eq_true.mp ((Array.all_eq_true_iff_forall_mem.mp hF) _ (Array.getElem_mem ha)) i (List.mem_range.mpr hi)
    simpa [Array.getElem?_eq_getElem hi] using q
  obtain ⟨i0, ei0⟩ := is_v ga1
  obtain rfl : w0 = (.int i0) := Option.some.inj ei0
  obtain ⟨i1, ei1⟩ := is_v ga2
  obtain rfl : w1 = (.int i1) := Option.some.inj ei1
  obtain ⟨i2, ei2⟩ := is_v ga3
  obtain rfl : w2 = (.int i2) := Option.some.inj ei2
  obtain ⟨i3, ei3⟩ := is_v ga4
  obtain rfl : w3 = (.int i3) := Option.some.inj ei3
  obtain ⟨i4, ei4⟩ := is_v gb4
  obtain rfl : w4 = (.int i4) := Option.some.inj ei4
  obtain ⟨n, o, h1, h2, h3, _, L, rfl, ⟨rfl, N⟩, hq⟩ := rm0 l s _ hw i0 i1 i2 i3 i4 s.heap s.heap.size (Nat.le_refl _)  tables_1 p e ha hc hk s m _ below hf ((Spec.applies_iff_loose hf).mp happ).1 ⟨rfl, State.Warmed39.refl s, rfl⟩ trivial
  refine ⟨n, _, h1, h2, h3, hpost _ _ _ _ _ _ ⟨Cond.after_iff.mpr rfl, Cond.after_iff.mpr (eq_i res_at (Term.int_eval (1)) rfl), trivial⟩ ⟨hq.1, hq.2.1, (hq.2.2.sift fun y hy => Or.inr (N y hy)).mono (by decide) (by decide)⟩⟩
theorem main_1_1 : Claimed_1_1 := comes_1 fun _ _ _ _ _ _ h hF => ⟨h.1, hF⟩
theorem main_1_2 : Claimed_1_2 := comes_1 fun _ _ _ _ _ _ h hF => ⟨h.2.1, hF⟩
end Jvm.Pilot.@@N@@
namespace Jvm.Pilot.@@N@@
open Jvm Jvm.ClassFile Sem Op Lib Jvm.Free Jvm.Stand Jvm.Pilot.@@N@@.Jvm.D
/-! MADE BY PROGRAM (witnessworld.py) out of the Statement's table words and the real class files: 9 classes; the members and pool entries that the words name. The judged class is class 1, her method 4. -/
namespace start1
open Jvm.ClassFile
def u (s : String) : CpInfo := .utf8 (stringToUtf16 s)
/-- a pool by its gaps: so many unusable entries, then the entry; so many at the end -/
def gap : Nat → List CpInfo → List CpInfo
  | 0, r => r
  | n + 1, r => .unusable :: gap n r
def poolList (es : List (Nat × CpInfo)) (last : Nat) : List CpInfo := es.foldr (fun e r => gap e.1 (e.2 :: r)) (gap last [])
def pool (es : List (Nat × CpInfo)) (last : Nat) : Array CpInfo := ⟨poolList es last⟩
def fileOf (pool : Array CpInfo) (this : Nat) (attrs : Array Attribute := #[]) (ms : Array MethodInfo := #[]) (fl : Nat := 33) (sup : Nat := 0) (ifs : Array Nat := #[]) (fds : Array FieldInfo := #[]) : ClassFile where
  minorVersion := 0
  majorVersion := 65
  constantPool := pool
  accessFlags := fl
  thisClass := this
  superClass := sup
  interfaces := ifs
  fields := fds
  methods := ms
  attributes := attrs
def plain (name : String) (sup : Option ClassId) : Class where
  name := name
  kind := .ordinary
  loader := none
  accessFlags := 33
  super := sup
  interfaces := #[]
  cf := none
  fields := #[]
  methods := #[]
  instanceTypes := #[]
  staticTypes := #[]
  resolved := #[]
  callSites := []
  init := .initialized
  statics := none
  mirror := none

def pool0 : Array CpInfo := pool [(5, u "<init>"), (0, u "()V"), (1, .class_ 10), (1, u "java/lang/Object")] 113

def k0c0 : Code := { maxStack := 0, maxLocals := 1, code := object_method_1_code, exceptionTable := #[], attributes := #[] }
def k0m0 : Method := { name := "<init>", desc := "()V", sig := { parameters := [], returnType := none }, accessFlags := 1, code := some k0c0 }
/-- java/lang/Object -/
def k0 : Class := { plain "java/lang/Object" none with
  accessFlags := 33
  interfaces := #[]
  cf := some (fileOf pool0 8 #[] #[{ accessFlags := 1, nameIndex := 5, descriptorIndex := 6, attributes := #[] }] 33 0 #[] #[])
  fields := #[]
  methods := #[k0m0]
  instanceTypes := #[]
  staticTypes := #[]
  resolved := Array.replicate 124 none
  statics := none }

def pool1 : Array CpInfo := pool [(2, .class_ 4), (1, u "java/lang/Object"), (0, u "<init>"), (0, u "()V"), (0, .methodref 8 9), (0, .class_ 10), (0, .nameAndType 11 12), (0, u "com/example/tuck/tuck/io/WordsHasNextPinLaw"), (0, u "blank"), (0, u "(B)Z"), (0, .methodref 8 14), (0, .nameAndType 15 16), (0, u "mk"), (0, u "(I)B"), (0, .methodref 8 18), (0, .nameAndType 19 20), (0, u "counts"), (0, u "(IIIB)Z"), (0, .class_ 22), (0, u "com/example/tuck/tuck/io/Words"), (0, .methodref 21 24), (0, .nameAndType 5 25), (0, u "([BII)V"), (0, .methodref 21 27), (0, .nameAndType 28 29), (0, u "hasNext"), (0, u "()Z"), (0, .methodref 21 31), (0, .nameAndType 32 33), (0, u "peek"), (0, u "()B"), (3, u "law"), (0, u "(IIIII)Z")] 4

def k1m0 : Method := { name := "<init>", desc := "()V", sig := { parameters := [], returnType := none }, accessFlags := 1, code := none }
def k1c1 : Code := { maxStack := 2, maxLocals := 2, code := method_2_code, exceptionTable := #[], attributes := #[] }
def k1m1 : Method := { name := "mk", desc := "(I)B", sig := { parameters := [.int], returnType := some .byte }, accessFlags := 10, code := some k1c1 }
def k1c2 : Code := { maxStack := 2, maxLocals := 1, code := method_3_code, exceptionTable := #[], attributes := #[] }
def k1m2 : Method := { name := "blank", desc := "(B)Z", sig := { parameters := [.byte], returnType := some .boolean }, accessFlags := 10, code := some k1c2 }
def k1c3 : Code := { maxStack := 2, maxLocals := 4, code := method_4_code, exceptionTable := #[], attributes := #[] }
def k1m3 : Method := { name := "counts", desc := "(IIIB)Z", sig := { parameters := [.int, .int, .int, .byte], returnType := some .boolean }, accessFlags := 10, code := some k1c3 }
def k1c4 : Code := { maxStack := 5, maxLocals := 16, code := code, exceptionTable := #[], attributes := #[] }
def k1m4 : Method := { name := "law", desc := "(IIIII)Z", sig := { parameters := [.int, .int, .int, .int, .int], returnType := some .boolean }, accessFlags := 9, code := some k1c4 }
/-- com/example/tuck/tuck/io/WordsHasNextPinLaw -/
def k1 : Class := { plain "com/example/tuck/tuck/io/WordsHasNextPinLaw" (some 0) with
  accessFlags := 49
  interfaces := #[]
  cf := some (fileOf pool1 8 #[] #[{ accessFlags := 1, nameIndex := 5, descriptorIndex := 6, attributes := #[] }, { accessFlags := 10, nameIndex := 15, descriptorIndex := 16, attributes := #[] }, { accessFlags := 10, nameIndex := 11, descriptorIndex := 12, attributes := #[] }, { accessFlags := 10, nameIndex := 19, descriptorIndex := 20, attributes := #[] }, { accessFlags := 9, nameIndex := 37, descriptorIndex := 38, attributes := #[] }] 49 2 #[] #[])
  fields := #[]
  methods := #[k1m0, k1m1, k1m2, k1m3, k1m4]
  instanceTypes := #[]
  staticTypes := #[]
  resolved := Array.replicate 43 none
  statics := none }

def pool2 : Array CpInfo := pool [(2, .class_ 4), (1, u "com/example/tuck/tuck/io/Words"), (0, u "<init>"), (0, u "([BII)V"), (0, .methodref 8 9), (0, .class_ 10), (0, .nameAndType 5 11), (0, u "java/lang/Object"), (0, u "()V"), (0, .fieldref 2 13), (0, .nameAndType 14 15), (0, u "line"), (0, u "[B"), (0, .fieldref 2 17), (0, .nameAndType 18 19), (0, u "pos"), (0, u "I"), (0, .fieldref 2 21), (0, .nameAndType 22 19), (0, u "end"), (0, .methodref 2 24), (0, .nameAndType 25 26), (0, u "isBlank"), (0, u "(B)Z"), (2, u "peek"), (0, u "()B"), (71, u "hasNext"), (0, u "()Z")] 6

def k2c0 : Code := { maxStack := 2, maxLocals := 4, code := prog_7_method_2_code, exceptionTable := #[], attributes := #[] }
def k2m0 : Method := { name := "<init>", desc := "([BII)V", sig := { parameters := [(.array .byte), .int, .int], returnType := none }, accessFlags := 1, code := some k2c0 }
def k2c1 : Code := { maxStack := 3, maxLocals := 1, code := prog_7_method_3_code, exceptionTable := #[], attributes := #[] }
def k2m1 : Method := { name := "hasNext", desc := "()Z", sig := { parameters := [], returnType := some .boolean }, accessFlags := 1, code := some k2c1 }
def k2c2 : Code := { maxStack := 2, maxLocals := 1, code := prog_7_method_4_code, exceptionTable := #[], attributes := #[] }
def k2m2 : Method := { name := "peek", desc := "()B", sig := { parameters := [], returnType := some .byte }, accessFlags := 1, code := some k2c2 }
def k2c3 : Code := { maxStack := 2, maxLocals := 1, code := prog_7_method_9_code, exceptionTable := #[], attributes := #[] }
def k2m3 : Method := { name := "isBlank", desc := "(B)Z", sig := { parameters := [.byte], returnType := some .boolean }, accessFlags := 10, code := some k2c3 }
/-- com/example/tuck/tuck/io/Words -/
def k2 : Class := { plain "com/example/tuck/tuck/io/Words" (some 0) with
  accessFlags := 49
  interfaces := #[]
  cf := some (fileOf pool2 2 #[] #[{ accessFlags := 1, nameIndex := 5, descriptorIndex := 6, attributes := #[] }, { accessFlags := 1, nameIndex := 102, descriptorIndex := 103, attributes := #[] }, { accessFlags := 1, nameIndex := 29, descriptorIndex := 30, attributes := #[] }, { accessFlags := 10, nameIndex := 25, descriptorIndex := 26, attributes := #[] }] 49 8 #[] #[{ accessFlags := 18, nameIndex := 14, descriptorIndex := 15, attributes := #[] }, { accessFlags := 18, nameIndex := 22, descriptorIndex := 19, attributes := #[] }, { accessFlags := 2, nameIndex := 18, descriptorIndex := 19, attributes := #[] }])
  fields := #[{ name := "line", type := (.array .byte), accessFlags := 18, slot := 0, constantValue := 0 }, { name := "end", type := .int, accessFlags := 18, slot := 1, constantValue := 0 }, { name := "pos", type := .int, accessFlags := 2, slot := 2, constantValue := 0 }]
  methods := #[k2m0, k2m1, k2m2, k2m3]
  instanceTypes := #[(.array .byte), .int, .int]
  staticTypes := #[]
  resolved := Array.replicate 110 none
  statics := none }

def pool3 : Array CpInfo := pool [(1, u "java/lang/Cloneable"), (0, .class_ 1), (0, u "java/lang/Object"), (0, .class_ 3)] 3

/-- java/lang/Cloneable -/
def k3 : Class := { plain "java/lang/Cloneable" (some 0) with
  accessFlags := 1537
  interfaces := #[]
  cf := some (fileOf pool3 2 #[] #[] 1537 4 #[] #[])
  fields := #[]
  methods := #[]
  instanceTypes := #[]
  staticTypes := #[]
  resolved := Array.replicate 8 none
  statics := none }

def pool4 : Array CpInfo := pool [(1, u "java/io/Serializable"), (0, .class_ 1), (0, u "java/lang/Object"), (0, .class_ 3)] 3

/-- java/io/Serializable -/
def k4 : Class := { plain "java/io/Serializable" (some 0) with
  accessFlags := 1537
  interfaces := #[]
  cf := some (fileOf pool4 2 #[] #[] 1537 4 #[] #[])
  fields := #[]
  methods := #[]
  instanceTypes := #[]
  staticTypes := #[]
  resolved := Array.replicate 8 none
  statics := none }

/-- the primitive byte -/
def k5 : Class := { plain "byte" none with kind := .primitive 'B', accessFlags := 0x411 }
/-- [B -/
def k6 : Class := { plain "[B" (some 0) with kind := .array 5 .byte, interfaces := #[3, 4], accessFlags := 1041 }

/-- the primitive int -/
def k7 : Class := { plain "int" none with kind := .primitive 'I', accessFlags := 0x411 }
/-- [I -/
def k8 : Class := { plain "[I" (some 0) with kind := .array 7 .int, interfaces := #[3, 4], accessFlags := 1041 }

def heap : Heap := #[]
def classes : Array Class := #[k0, k1, k2, k3, k4, k5, k6, k7, k8]
def interned : List (Array UInt16 × Addr) := []
def slotsUsed : Nat := 0
def theMethod : MethodId := ⟨1, 4⟩
def args0 : Array Value := #[.int 5, .int 9, .int 3, .int 2, .int 2]
def aboutOver (below : List Frame) : State where
  vm := { classes := classes, interned := interned.toArray }
  heap := heap
  slotsUsed := slotsUsed
  threads := #[{ frames := .invoking theMethod args0 :: below }]
def below0 : List Frame := [.native { method := ⟨0, 0⟩, args := #[] }]
def about1 : State := aboutOver below0
def p0 : Program := .bare "" "" ""
def e0 : Env := launch0.env 0 0 0
theorem w_frames : about1.frames = Frame.invoking theMethod args0 :: below0 := rfl
set_option maxRecDepth 65536 in
theorem w_args : argsFit about1.vm theMethod args0 = true := by decide +kernel
set_option maxRecDepth 65536 in
theorem w_heap : heapFits about1 = true := by decide +kernel
set_option maxRecDepth 65536 in
theorem w_runnable : about1.curStatus? = some .runnable := by decide +kernel
set_option maxRecDepth 65536 in
theorem w_alone : about1.alone = true := by decide +kernel
set_option maxRecDepth 65536 in
theorem w_named : about1.methodNamed? x = some theMethod := by decide +kernel
set_option maxRecDepth 65536 in
theorem w_hears : about1.hears theMethod below0 = true := by decide +kernel
set_option maxRecDepth 65536 in
theorem w_ripe : about1.ripe theMethod args0 below0 = true := by decide +kernel
theorem w_running : about1.status = .running := rfl
set_option maxRecDepth 65536 in
theorem w_room : about1.hasRoom e0.platform room_1 = true :=
  launch0.hasRoom_least _ room_1 (by decide +kernel) (by decide +kernel) (by decide +kernel) (by decide +kernel) (by decide +kernel) (by decide +kernel)
theorem allAtoms_all (ts : List Jvm.Cond) (a : Array Jvm.Value) (st : Jvm.State) : (allAtoms ts).before a st = ts.all (fun c => c.before a st) := by
  induction ts with
  | nil => rfl
  | cons c t ih =>
    show (Jvm.Cond.and c (allAtoms t)).before a st = _
    rw [Jvm.Cond.before_and, ih, List.all_cons]
def words1 : List Jvm.Cond := Jvm.Cond.code x code maxLocals ret :: tables_1
/-- a 'code' word, met by the world's own term for the bytes: nothing is compared byte by byte -/
theorem code_word {y : MethodName} {bytes : ByteArray} {mx : Nat} {rt : Option FieldType} {a : Array Value} {s : State} {m : MethodId} {meth : Method} {c : Code} (h1 : s.methodNamed? y = some m) (h2 : s.vm.method? m = some meth) (h3 : meth.code = some c) (h4 : c.code = bytes)
    (h5 : (c.maxLocals == mx && c.exceptionTable.isEmpty && decide (c.maxStack ≤ mostOperands) && decide (meth.sig.returnType = rt) && !meth.locks && decide (parseMethodDescriptor y.desc = some meth.sig)) = true) : (Jvm.Cond.code y bytes mx rt).before a s = true := by
  simp only [Bool.and_eq_true, beq_iff_eq, Bool.not_eq_true', decide_eq_true_eq] at h5
  obtain ⟨⟨⟨⟨⟨g1, g2⟩, g3⟩, g4⟩, g5⟩, g6⟩ := h5
  simp [Cond.before, Cond.holds, Cond.value, h1, h2, h3, h4, g1, g2, g3, g4, g5, g6]
def isCode : Jvm.Cond → Bool
  | .code _ _ _ _ => true
  | _ => false
theorem all_split {L : List Jvm.Cond} {P : Jvm.Cond → Bool} (h1 : L.all (fun c => isCode c || P c) = true) (h2 : ∀ c ∈ L.filter isCode, P c = true) : L.all P = true := by
  refine List.all_eq_true.mpr fun c hc => ?_
  have h := List.all_eq_true.mp h1 c hc
  rcases Bool.eq_false_or_eq_true (isCode c) with hi | hi
  · exact h2 c (List.mem_filter.mpr ⟨hc, hi⟩)
  · simpa [hi] using h
set_option maxRecDepth 65536 in
theorem w_c0 : (Jvm.Cond.code x code maxLocals ret).before args0 about1 = true := code_word (m := ⟨1, 4⟩) (meth := k1m4) (c := k1c4) (by decide +kernel) rfl rfl rfl (by decide +kernel)
set_option maxRecDepth 65536 in
theorem w_c1 : (Jvm.Cond.code ({ cls := "com/example/tuck/tuck/io/WordsHasNextPinLaw", name := "mk", desc := "(I)B" } : Jvm.MethodName) method_2_code (2 : Nat) (Option.some Jvm.ClassFile.FieldType.byte)).before args0 about1 = true := code_word (m := ⟨1, 1⟩) (meth := k1m1) (c := k1c1) (by decide +kernel) rfl rfl rfl (by decide +kernel)
set_option maxRecDepth 65536 in
theorem w_c2 : (Jvm.Cond.code ({ cls := "com/example/tuck/tuck/io/WordsHasNextPinLaw", name := "counts", desc := "(IIIB)Z" } : Jvm.MethodName) method_4_code (4 : Nat) (Option.some Jvm.ClassFile.FieldType.boolean)).before args0 about1 = true := code_word (m := ⟨1, 3⟩) (meth := k1m3) (c := k1c3) (by decide +kernel) rfl rfl rfl (by decide +kernel)
set_option maxRecDepth 65536 in
theorem w_c3 : (Jvm.Cond.code ({ cls := "com/example/tuck/tuck/io/Words", name := "<init>", desc := "([BII)V" } : Jvm.MethodName) prog_7_method_2_code (4 : Nat) (Option.none : Option Jvm.ClassFile.FieldType)).before args0 about1 = true := code_word (m := ⟨2, 0⟩) (meth := k2m0) (c := k2c0) (by decide +kernel) rfl rfl rfl (by decide +kernel)
set_option maxRecDepth 65536 in
theorem w_c4 : (Jvm.Cond.code ({ cls := "java/lang/Object", name := "<init>", desc := "()V" } : Jvm.MethodName) object_method_1_code (1 : Nat) (Option.none : Option Jvm.ClassFile.FieldType)).before args0 about1 = true := code_word (m := ⟨0, 0⟩) (meth := k0m0) (c := k0c0) (by decide +kernel) rfl rfl rfl (by decide +kernel)
set_option maxRecDepth 65536 in
theorem w_c5 : (Jvm.Cond.code ({ cls := "com/example/tuck/tuck/io/Words", name := "hasNext", desc := "()Z" } : Jvm.MethodName) prog_7_method_3_code (1 : Nat) (Option.some Jvm.ClassFile.FieldType.boolean)).before args0 about1 = true := code_word (m := ⟨2, 1⟩) (meth := k2m1) (c := k2c1) (by decide +kernel) rfl rfl rfl (by decide +kernel)
set_option maxRecDepth 65536 in
theorem w_c6 : (Jvm.Cond.code ({ cls := "com/example/tuck/tuck/io/WordsHasNextPinLaw", name := "blank", desc := "(B)Z" } : Jvm.MethodName) method_3_code (1 : Nat) (Option.some Jvm.ClassFile.FieldType.boolean)).before args0 about1 = true := code_word (m := ⟨1, 2⟩) (meth := k1m2) (c := k1c2) (by decide +kernel) rfl rfl rfl (by decide +kernel)
set_option maxRecDepth 65536 in
theorem w_c7 : (Jvm.Cond.code ({ cls := "com/example/tuck/tuck/io/Words", name := "isBlank", desc := "(B)Z" } : Jvm.MethodName) prog_7_method_9_code (1 : Nat) (Option.some Jvm.ClassFile.FieldType.boolean)).before args0 about1 = true := code_word (m := ⟨2, 3⟩) (meth := k2m3) (c := k2c3) (by decide +kernel) rfl rfl rfl (by decide +kernel)
set_option maxRecDepth 65536 in
theorem w_c8 : (Jvm.Cond.code ({ cls := "com/example/tuck/tuck/io/Words", name := "peek", desc := "()B" } : Jvm.MethodName) prog_7_method_4_code (1 : Nat) (Option.some Jvm.ClassFile.FieldType.byte)).before args0 about1 = true := code_word (m := ⟨2, 2⟩) (meth := k2m2) (c := k2c2) (by decide +kernel) rfl rfl rfl (by decide +kernel)
def codes1 : List Jvm.Cond := [Jvm.Cond.code x code maxLocals ret, Jvm.Cond.code ({ cls := "com/example/tuck/tuck/io/WordsHasNextPinLaw", name := "mk", desc := "(I)B" } : Jvm.MethodName) method_2_code (2 : Nat) (Option.some Jvm.ClassFile.FieldType.byte), Jvm.Cond.code ({ cls := "com/example/tuck/tuck/io/WordsHasNextPinLaw", name := "counts", desc := "(IIIB)Z" } : Jvm.MethodName) method_4_code (4 : Nat) (Option.some Jvm.ClassFile.FieldType.boolean), Jvm.Cond.code ({ cls := "com/example/tuck/tuck/io/Words", name := "<init>", desc := "([BII)V" } : Jvm.MethodName) prog_7_method_2_code (4 : Nat) (Option.none : Option Jvm.ClassFile.FieldType), Jvm.Cond.code ({ cls := "java/lang/Object", name := "<init>", desc := "()V" } : Jvm.MethodName) object_method_1_code (1 : Nat) (Option.none : Option Jvm.ClassFile.FieldType), Jvm.Cond.code ({ cls := "com/example/tuck/tuck/io/Words", name := "hasNext", desc := "()Z" } : Jvm.MethodName) prog_7_method_3_code (1 : Nat) (Option.some Jvm.ClassFile.FieldType.boolean), Jvm.Cond.code ({ cls := "com/example/tuck/tuck/io/WordsHasNextPinLaw", name := "blank", desc := "(B)Z" } : Jvm.MethodName) method_3_code (1 : Nat) (Option.some Jvm.ClassFile.FieldType.boolean), Jvm.Cond.code ({ cls := "com/example/tuck/tuck/io/Words", name := "isBlank", desc := "(B)Z" } : Jvm.MethodName) prog_7_method_9_code (1 : Nat) (Option.some Jvm.ClassFile.FieldType.boolean), Jvm.Cond.code ({ cls := "com/example/tuck/tuck/io/Words", name := "peek", desc := "()B" } : Jvm.MethodName) prog_7_method_4_code (1 : Nat) (Option.some Jvm.ClassFile.FieldType.byte)]
set_option maxRecDepth 65536 in
theorem codes_eq : words1.filter isCode = codes1 := rfl
theorem w_codes : ∀ c ∈ words1.filter isCode, c.before args0 about1 = true := by
  rw [codes_eq]
  intro c hc
  simp only [codes1, List.mem_cons, List.not_mem_nil, or_false] at hc
  rcases hc with rfl | rfl | rfl | rfl | rfl | rfl | rfl | rfl | rfl
  · exact w_c0
  · exact w_c1
  · exact w_c2
  · exact w_c3
  · exact w_c4
  · exact w_c5
  · exact w_c6
  · exact w_c7
  · exact w_c8
set_option maxRecDepth 65536 in
theorem w_t1 : (words1.take 24).all (fun c => isCode c || c.before args0 about1) = true := by decide +kernel
set_option maxRecDepth 65536 in
theorem w_t2 : (words1.drop 24).all (fun c => isCode c || c.before args0 about1) = true := by decide +kernel
theorem w_tables : (allAtoms (Jvm.Cond.code x code maxLocals ret :: tables_1)).before args0 about1 = true := by
  rw [allAtoms_all]
  show words1.all (fun c => c.before args0 about1) = true
  refine all_split ?_ w_codes
  rw [← List.take_append_drop 24 words1, List.all_append, w_t1, w_t2]
  rfl
set_option maxRecDepth 65536 in
theorem w_case : (Jvm.Cond.and given_1 narrow_1).before args0 about1 = true := by decide +kernel
theorem w_applies : (headSpec (Jvm.Cond.code x code maxLocals ret :: tables_1) room_1).applies x e0.platform about1 = true :=
  (Spec.applies_iff w_frames).mpr ⟨w_running, w_runnable, w_alone, w_named, w_hears, w_ripe, w_room, w_tables⟩
theorem atStart : AtStart classFile x code maxLocals ret World_1 tables_1 room_1 Calls_1 rest_1 Pre_1 launch0 p0 e0 about1 theMethod args0 below0 :=
  ⟨lists_1, trivial, launch0.admits_env _ _ _, launch0.least_env, fairChoices_fair.cas, fairChoices_fair.clock, w_frames, w_args, w_heap, w_applies, trivial, trivial, w_case⟩
end start1
theorem witness_1 : WitnessClaimed_1 := ⟨start1.p0, start1.e0, start1.about1, start1.theMethod, start1.args0, start1.below0, start1.atStart⟩
end Jvm.Pilot.@@N@@
