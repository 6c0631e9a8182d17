import JvmDerived
import JvmDerived.Pilot.@@N@@Statement
import JvmDerived.Pilot.@@N@@Code
set_option linter.unusedVariables false
set_option linter.unusedSimpArgs false
namespace Jvm.RoadKit
open Sem ClassFile Op Lib Jvm.Stand Jvm.Free Jvm.LawKit
section New
variable {p : Program} {l : Launch} {e : Env} {R : Room} {s : State} {m : MethodId} {args : Array Value} {below : List Frame} {meth : Method} {c : Code} {T : State} {locs : List Loc} {cells slots : Nat}
theorem retI (X : Stand p l e R s m args below meth c T locs cells slots) (hx : p.tables.exec = Jvm.exec) {pc : Nat} {Ls : Array Slot} {z : Int32} {rest : List Value} (hret : meth.sig.returnType = some .int) (hd : decode c.code pc = .ok (.ireturn, 1)) {fs : List Frame}
    (hl : ∀ (f : JFrame) (acts : List Action), f.method = m → f.locked = none → f.entered = [] → (doReturn e (T.setTop f) acts (some (.int z))).1 = T.setFrames fs) : Steps p.tables e below (T.setTop (mkF m pc Ls (.int z :: rest))) (T.setFrames fs) := by
  have hm' : T.vm.method? m = some meth := X.method'
  have hn : narrow .int (.int z) = .int z := rfl
  show Steps p.tables e below (T.setTop { method := m, pc := pc, locals := Ls, stack := _ :: rest, locked := none }) _
  jvm_step X.here [X.here.top, hx, hd, hm', hret, hn]
  first | (intro acts; rw [hl _ acts rfl rfl rfl]) | rw [hl _ _ rfl rfl rfl]
  exact Steps.refl _
theorem own_retA (X : Stand p l e R s m args below meth c T locs cells slots) (hx : p.tables.exec = Jvm.exec) {pc : Nat} {Ls : Array Slot} {z : Value} {ty : FieldType} {rest : List Value} (hret : meth.sig.returnType = some ty) (hty : ty.isReference = true) (hz : z.isRef = true) (hd : decode c.code pc = .ok (.areturn, 1)) {fs : List Frame}
    (hl : ∀ (f : JFrame) (acts : List Action), f.method = m → f.locked = none → f.entered = [] → (doReturn e (T.setTop f) acts (some z)).1 = T.setFrames fs) : Steps p.tables e below (T.setTop (mkF m pc Ls (z :: rest))) (T.setFrames fs) := by
  have hm' : T.vm.method? m = some meth := X.method'
  show Steps p.tables e below (T.setTop { method := m, pc := pc, locals := Ls, stack := _ :: rest, locked := none }) _
  jvm_step X.here [X.here.top, hx, hd, hm', hret, hty, hz]
  first | (intro acts; rw [hl _ acts rfl rfl rfl]) | rw [hl _ _ rfl rfl rfl]
  exact Steps.refl _
theorem own_retD (X : Stand p l e R s m args below meth c T locs cells slots) (hx : p.tables.exec = Jvm.exec) {pc : Nat} {Ls : Array Slot} {z : UInt64} {rest : List Value} (hret : meth.sig.returnType = some .double) (hd : decode c.code pc = .ok (.dreturn, 1)) {fs : List Frame}
    (hl : ∀ (f : JFrame) (acts : List Action), f.method = m → f.locked = none → f.entered = [] → (doReturn e (T.setTop f) acts (some (.double z))).1 = T.setFrames fs) : Steps p.tables e below (T.setTop (mkF m pc Ls (.double z :: rest))) (T.setFrames fs) :=
  retOut X hx hret rfl (Or.inr (Or.inr (Or.inl ⟨rfl, rfl, z, rfl⟩))) hd hl
/-- where a body is to end: it runs, it has ended, it returned v, Q says what v and the heap are -/
def own_F (s : State) (below : List Frame) (Q : Option Value → Heap → List Loc → Prop) (C S : Nat) (t : State) (o : Outcome) : Prop := t.status = .running ∧ Ended t below o ∧ ∃ v L, o = .returned v ∧ Q v t.heap L ∧ FrameEnd s o t L C S
/-- the run from T, with the frame g on top, comes to such an end -/
def own_Go (p : Program) (e : Env) (below : List Frame) (F : State → Outcome → Prop) (T : State) (g : JFrame) : Prop := ∃ t o, Steps p.tables e below (T.setTop g) t ∧ F t o
theorem own_st {F : State → Outcome → Prop} {T T' : State} {g g' : JFrame} (h : ∀ t, Steps p.tables e below (T'.setTop g') t → Steps p.tables e below (T.setTop g) t) (k : own_Go p e below F T' g') : own_Go p e below F T g := by
  obtain ⟨t, o, h1, h2⟩ := k
  exact ⟨t, o, h t h1, h2⟩
theorem own_cast {F : State → Outcome → Prop} {T : State} {g g' : JFrame} (q : g = g') (k : own_Go p e below F T g') : own_Go p e below F T g := q ▸ k
theorem own_ret {F : State → Outcome → Prop} {Q : Option Value → Heap → List Loc → Prop} {C S : Nat} {g : JFrame} {v : Option Value} (hF : F = own_F s below Q C S) (X : Stand p l e R s m args below meth c T locs cells slots) (hv : meth.sig.returnType = none → v = none) (hlk : meth.locks = false)
    (hst : ∀ fs, (∀ (f : JFrame) (acts : List Action), f.method = m → f.locked = none → f.entered = [] → (doReturn e (T.setTop f) acts v).1 = T.setFrames fs) → Steps p.tables e below (T.setTop g) (T.setFrames fs)) (hQ : Q v T.heap locs) (hc : cells ≤ C) (hs : slots ≤ S) : own_Go p e below F T g := by
  subst hF
  obtain ⟨fs, hr, hrun, hended, hW, hsame⟩ := X.leave hv hlk
  exact ⟨T.setFrames fs, .returned v, hst fs hr, hrun, hended, v, locs, rfl, hQ, ⟨_, rfl⟩, hW, hsame.mono hc hs⟩
theorem own_some {ret : Option FieldType} {ty : FieldType} {v : Option Value} (hret : ret = some ty) : ret = none → v = none := fun h => by rw [hret] at h; cases h
/-- a body's contract: called with 'as' at the heap h0 it returns, and Q holds of what it returned, of the heap, of the places written -/
abbrev own_Met (l : Launch) (Z : State) (y : MethodName) (bytes : ByteArray) (maxL : Nat) (ret : Option FieldType) (rm : Room) (as : Array Value) (h0 : Heap) (Q : Option Value → Heap → List Loc → Prop) : Prop :=
  ∀ ws : List Jvm.Cond, MetFree l y (head1 (Jvm.Cond.code y bytes maxL ret :: ws) rm) (fun a U => a = as ∧ Z.Warmed39 U.vm ∧ U.heap = h0) (fun _ _ _ _ _ => True) (fun _ U o U' => ∃ v L, o = .returned v ∧ Q v U'.heap L ∧ FrameEnd U o U' L rm.cells rm.slots)
theorem own_body {Z : State} {y : MethodName} {bytes : ByteArray} {maxL : Nat} {ret : Option FieldType} {rm : Room} {as : Array Value} {h0 : Heap} {Q : Option Value → Heap → List Loc → Prop} (hpl : plainFor y = true)
    (body : ∀ (p : Program) (e : Env) (s : State) (m : MethodId) (below : List Frame) (meth : Method) (c : Code) (T : State), Z.Warmed39 s.vm → p.tables.exec = Jvm.exec → c.code = bytes → c.maxLocals = maxL → s.vm.findClass y.cls = some m.cls → meth.name = y.name → meth.sig.returnType = ret → meth.locks = false →
      Stand p l e rm s m as below meth c T [] 0 0 → T.heap = h0 → ∀ F : State → Outcome → Prop, F = own_F s below Q rm.cells rm.slots → own_Go p e below F T (entryFrame m as maxL)) : own_Met l Z y bytes maxL ret rm as h0 Q := by
  intro ws
  refine MetFree.of_bodySF hpl hisR ?_
  intro p e s m args below meth c s₁ Bd hml0 hP hK
  obtain ⟨rfl, hZ, hh⟩ := hP
  obtain ⟨t, o, h1, h2, h3, h4⟩ := body p e s m below meth c s₁ hZ Bd.exec Bd.bytes hml0 (findClass_of_methodNamed Bd.named) (name_of_methodNamed Bd.named Bd.method).1 Bd.returns (BodyLoose.notSynchronized Bd) (Stand.of_body Bd) (by rw [← hh, Bd.state]; rfl) _ rfl
  exact ⟨t, o, h1, h2, h3, h4⟩
theorem own_back {Z : State} {a0 : Array Value} {y : MethodName} {bytes : ByteArray} {maxL : Nat} {ret : Option FieldType} {rm : Room} {len W : Nat} {as' : Array Value} {h : Heap} {Q : Option Value → Heap → List Loc → Prop} (hM : own_Met l Z y bytes maxL ret rm as' h Q)
    (hZ : Z.Warmed39 s.vm) (wc : (Cond.code y bytes maxL ret).before a0 Z = true) (wz : (Cond.initialized y.cls).before a0 Z = true) (hf : rm.frames + 1 ≤ R.frames) (hl : W + (maxL + 11) + rm.locals ≤ R.locals) :
    Back l R p e below s args y len W (fun A a => a = as' ∧ A.U.heap = h ∧ A.cells + rm.cells ≤ R.cells ∧ A.slots + rm.slots ≤ R.slots)
      (fun A _ v B => ∃ L, Q v B.U.heap L ∧ B.locs = A.locs ++ L ∧ B.cells = A.cells + rm.cells ∧ B.slots = A.slots + rm.slots) := backOf (Q := Q) (rm := rm) (hM []) hZ wc wz hf hl
theorem own_selP {Z : State} {a0 : Array Value} {y : MethodName} {n : Nat} (hZ : Z.Warmed39 s.vm) (wi : (Cond.instantiable y.cls n).before a0 Z = true) (hpriv : s.PrivateAt y) (hinst : (Cond.instanceMethod y).before args s = true) (hy : y.cls ≠ "java/lang/invoke/MethodHandle" ∧ y.cls ≠ "java/lang/invoke/VarHandle") : (Cond.selects y.cls y y).before args s = true := by
  obtain ⟨c, k, h1, h2, h3, h4, -, -⟩ := Cond.instantiable_spec (mvT (args := args) hZ wi)
  exact selects_self_of_private h1 h2 (by cases hi : k.isInterface <;> simp [hi] at h4 ⊢) hpriv hinst hy
theorem own_fresh {Z : State} {h : Heap} {b : Addr} (g : b = h.size) {n : Nat} (q : n ≤ h.size) : n ≤ b := g ▸ q
theorem own_ne {h : Heap} {a b : Addr} (g : b = h.size) (q : a < h.size) : a ≠ b := Nat.ne_of_lt (g ▸ q)
end New
end Jvm.RoadKit
namespace Jvm.Pilot.@@N@@
open Jvm Jvm.ClassFile Sem Op Lib Jvm.Free Jvm.Stand Jvm.LawKit Jvm.RoadKit Bundle Jvm.Pilot.@@N@@.Jvm.D

theorem own_and8 (x : Int64) : (x &&& (-8 : Int64)).toInt = x.toInt - x.toInt % 8 := by
  have h7 : (x &&& (7 : Int64)).toInt = x.toInt % 8 := c_maskL x 7 3 (by decide) (by decide)
  have hs : x = (x &&& (7 : Int64)) + (x &&& (-8 : Int64)) := by
    apply Int64.toBitVec_inj.mp
    rw [Int64.toBitVec_add, Int64.toBitVec_and, Int64.toBitVec_and]
    rw [BitVec.add_eq_or_of_and_eq_zero]
    · rw [← BitVec.and_or_distrib_left]
      have : (Int64.toBitVec 7 ||| Int64.toBitVec (-8)) = BitVec.allOnes 64 := by decide
      rw [this, BitVec.and_allOnes]
    · have e : x.toBitVec &&& Int64.toBitVec 7 &&& (x.toBitVec &&& Int64.toBitVec (-8)) = x.toBitVec &&& (x.toBitVec &&& (Int64.toBitVec 7 &&& Int64.toBitVec (-8))) := by ac_rfl
      rw [e, show Int64.toBitVec 7 &&& Int64.toBitVec (-8) = 0#64 by decide]
      simp
  have hc := c_ladd (x &&& (7 : Int64)) (x &&& (-8 : Int64))
  rw [← hs, h7] at hc
  have r1 := rng64 x
  have r2 := rng64 (x &&& (-8 : Int64))
  omega
/-- what ofArray makes of the octets -/
def own_pad (q : Int64) : Int64 := (((16 : Int64) + q + 8) - 1) &&& (-8)
theorem own_pad_eq (q : Int64) (h0 : 0 ≤ q.toInt) (h1 : q.toInt < 1152921504606846976) : (own_pad q).toInt % 8 = 0 ∧ q.toInt + 16 ≤ (own_pad q).toInt ∧ (own_pad q).toInt < q.toInt + 24 := by
  have a1 := c_ladd (16 : Int64) q
  have a2 := c_ladd ((16 : Int64) + q) 8
  have a3 := c_lsub ((16 : Int64) + q + 8) 1
  have r1 := rng64 ((16 : Int64) + q); have r2 := rng64 ((16 : Int64) + q + 8); have r3 := rng64 ((16 : Int64) + q + 8 - 1)
  have k16 : (16 : Int64).toInt = 16 := by decide
  have k8 : (8 : Int64).toInt = 8 := by decide
  have k1 : (1 : Int64).toInt = 1 := by decide
  rw [k16] at a1; rw [k8] at a2; rw [k1] at a3
  have e := own_and8 ((16 : Int64) + q + 8 - 1)
  have e' : (own_pad q).toInt = ((16 : Int64) + q + 8 - 1).toInt - ((16 : Int64) + q + 8 - 1).toInt % 8 := e
  omega
theorem own_lt {a b : Int64} (h : a.toInt < b.toInt) : a < b := Int64.lt_iff_toInt_lt.mpr h
theorem own_nlt {a b : Int64} (h : b.toInt ≤ a.toInt) : ¬ a < b := fun q => by have := Int64.lt_iff_toInt_lt.mp q; omega
theorem own_rem0 (r d : Int64) (D : Int) (hd : d.toInt = D) (h0 : 0 ≤ r.toInt) (h : r.toInt % D = 0) : (r - (r / d) * d) = 0 := by
  apply Int64.toInt_inj.mp
  rw [(c_lrem r d D hd).1 h0, h]; rfl
theorem own_last (e p : Int64) (h0 : 0 ≤ e.toInt) (h1 : e.toInt < 1152921504606846976) (b : e.toInt + 16 ≤ p.toInt) (c : p.toInt < e.toInt + 24) (a : p.toInt % 8 = 0) :
    (p - (p / (8 : Int64)) * (8 : Int64)) = (0 : Int64) ∧ ¬ (p < ((16 : Int64) + e)) ∧ (p - ((16 : Int64) + e)) < (8 : Int64) := by
  have a1 := c_ladd (16 : Int64) e
  have k16 : (16 : Int64).toInt = 16 := by decide
  have k8 : (8 : Int64).toInt = 8 := by decide
  rw [k16] at a1
  have r1 := rng64 ((16 : Int64) + e)
  have a2 := c_lsub p ((16 : Int64) + e)
  have r2 := rng64 (p - ((16 : Int64) + e))
  refine ⟨own_rem0 p 8 8 (by decide) (by omega) a, own_nlt (by omega), own_lt (by omega)⟩
theorem own_half (r : Int64) (h0 : 0 ≤ r.toInt) : (r / (2 : Int64)).toInt = r.toInt / 2 := (c_ldiv r 2 2 (by decide) (by decide)).1 h0

theorem pd_0 : parseMethodDescriptor "(J)J" = some ⟨[.long], some .long⟩ := by decide +kernel
theorem d1_0 : decode prog_38_method_2_code 0 = .ok (.ldc2_w 9, 3) := by decide +kernel
theorem d1_3 : decode prog_38_method_2_code 3 = .ok (.lload_n 0, 1) := by decide +kernel
theorem d1_4 : decode prog_38_method_2_code 4 = .ok (.ladd, 1) := by decide +kernel
theorem d1_5 : decode prog_38_method_2_code 5 = .ok (.ldc2_w 11, 3) := by decide +kernel
theorem d1_8 : decode prog_38_method_2_code 8 = .ok (.ladd, 1) := by decide +kernel
theorem d1_9 : decode prog_38_method_2_code 9 = .ok (.lconst 1, 1) := by decide +kernel
theorem d1_10 : decode prog_38_method_2_code 10 = .ok (.lsub, 1) := by decide +kernel
theorem d1_11 : decode prog_38_method_2_code 11 = .ok (.ldc2_w 13, 3) := by decide +kernel
theorem d1_14 : decode prog_38_method_2_code 14 = .ok (.land, 1) := by decide +kernel
theorem d1_15 : decode prog_38_method_2_code 15 = .ok (.lstore_n 2, 1) := by decide +kernel
theorem d1_16 : decode prog_38_method_2_code 16 = .ok (.lload_n 2, 1) := by decide +kernel
theorem d1_17 : decode prog_38_method_2_code 17 = .ok (.ldc2_w 15, 3) := by decide +kernel
theorem d1_20 : decode prog_38_method_2_code 20 = .ok (.lcmp, 1) := by decide +kernel
theorem d1_21 : decode prog_38_method_2_code 21 = .ok (.ifCond .lt 11, 3) := by decide +kernel
theorem d1_24 : decode prog_38_method_2_code 24 = .ok (.ldc2_w 17, 3) := by decide +kernel
theorem d1_27 : decode prog_38_method_2_code 27 = .ok (.lload_n 2, 1) := by decide +kernel
theorem d1_28 : decode prog_38_method_2_code 28 = .ok (.lmul, 1) := by decide +kernel
theorem d1_29 : decode prog_38_method_2_code 29 = .ok (.goto 4, 3) := by decide +kernel
theorem d1_32 : decode prog_38_method_2_code 32 = .ok (.lload_n 2, 1) := by decide +kernel
theorem d1_33 : decode prog_38_method_2_code 33 = .ok (.lreturn, 1) := by decide +kernel
theorem pn_1 : plainFor (⟨"com/example/newsweave/newsweave/core/HeapSizes", "ofArray", "(J)J"⟩ : MethodName) = true := plainFor_of_name (by first | (simp [plainName, overriddenIn]; done) | decide +kernel)
set_option maxRecDepth 65536 in
set_option maxHeartbeats 40000000 in
theorem rm1 (l : Launch) (Z : State) (a0 : Array Value) (hw : ∀ d ∈ tables_1, d.before a0 Z = true) (q1 : Int64) (h0 : Heap) (n0 : Nat) (Z0 : n0 ≤ h0.size)  :
    own_Met l Z (⟨"com/example/newsweave/newsweave/core/HeapSizes", "ofArray", "(J)J"⟩ : MethodName) prog_38_method_2_code 4 (some .long) ({ frames := 0, cells := 0, slots := 0, locals := 0 } : Room) #[(.long q1)] h0 (fun v h L => ∃ r, v = some (.long r) ∧ Fr n0 L ∧ h = h0 ∧ ((own_pad q1 < (524288 : Int64) ∧ r = own_pad q1) ∨ (¬ (own_pad q1 < (524288 : Int64)) ∧ r = (2 : Int64) * own_pad q1))) := by
  refine own_body pn_1 ?_
  intro p e s m below meth c T0 hZ hx hby hml hown hnm hret hlk X0 e0 F hF
  have N0 := Fr.nil n0
  have K0 := Keep.refl h0 []
  refine own_cast (g' := (mkF m 0 #[.val (.long q1), .second, .unset, .unset] [])) (by first | rfl | simp [entryFrame, mkF, argsToLocals, Value.category]) ?_
  refine own_st (T' := T0) (g' := (mkF m 3 #[.val (.long q1), .second, .unset, .unset] [(.long (16 : Int64))])) (fun t9 k9 => X0.ldc2Long hx hown (mvT hZ (hw _ (List.mem_of_getElem? (i := 6) rfl))) (g := (mkF m 0 #[.val (.long q1), .second, .unset, .unset] [])) rfl (hb hby d1_0) t9 k9) ?_
  refine own_st (T' := T0) (g' := (mkF m 4 #[.val (.long q1), .second, .unset, .unset] [(.long q1), (.long (16 : Int64))])) (fun t9 k9 => XS.lloadN X0.here hx rfl (hb hby d1_3) rfl k9) ?_
  refine own_st (T' := T0) (g' := (mkF m 5 #[.val (.long q1), .second, .unset, .unset] [(.long ((16 : Int64) + q1))])) (fun t9 k9 => XS.ladd X0.here hx rfl (hb hby d1_4) rfl k9) ?_
  refine own_st (T' := T0) (g' := (mkF m 8 #[.val (.long q1), .second, .unset, .unset] [(.long (8 : Int64)), (.long ((16 : Int64) + q1))])) (fun t9 k9 => X0.ldc2Long hx hown (mvT hZ (hw _ (List.mem_of_getElem? (i := 7) rfl))) (g := (mkF m 5 #[.val (.long q1), .second, .unset, .unset] [(.long ((16 : Int64) + q1))])) rfl (hb hby d1_5) t9 k9) ?_
  refine own_st (T' := T0) (g' := (mkF m 9 #[.val (.long q1), .second, .unset, .unset] [(.long (((16 : Int64) + q1) + (8 : Int64)))])) (fun t9 k9 => XS.ladd X0.here hx rfl (hb hby d1_8) rfl k9) ?_
  refine own_st (T' := T0) (g' := (mkF m 10 #[.val (.long q1), .second, .unset, .unset] [(.long (1 : Int64)), (.long (((16 : Int64) + q1) + (8 : Int64)))])) (fun t9 k9 => XS.lconst X0.here hx rfl (hb hby d1_9) k9) ?_
  refine own_st (T' := T0) (g' := (mkF m 11 #[.val (.long q1), .second, .unset, .unset] [(.long ((((16 : Int64) + q1) + (8 : Int64)) - (1 : Int64)))])) (fun t9 k9 => XS.lsub X0.here hx rfl (hb hby d1_10) rfl k9) ?_
  refine own_st (T' := T0) (g' := (mkF m 14 #[.val (.long q1), .second, .unset, .unset] [(.long (-8 : Int64)), (.long ((((16 : Int64) + q1) + (8 : Int64)) - (1 : Int64)))])) (fun t9 k9 => X0.ldc2Long hx hown (mvT hZ (hw _ (List.mem_of_getElem? (i := 8) rfl))) (g := (mkF m 11 #[.val (.long q1), .second, .unset, .unset] [(.long ((((16 : Int64) + q1) + (8 : Int64)) - (1 : Int64)))])) rfl (hb hby d1_11) t9 k9) ?_
  refine own_st (T' := T0) (g' := (mkF m 15 #[.val (.long q1), .second, .unset, .unset] [(.long (((((16 : Int64) + q1) + (8 : Int64)) - (1 : Int64)) &&& (-8 : Int64)))])) (fun t9 k9 => XS.land X0.here hx rfl (hb hby d1_14) rfl k9) ?_
  refine own_st (T' := T0) (g' := (mkF m 16 #[.val (.long q1), .second, .val (.long (((((16 : Int64) + q1) + (8 : Int64)) - (1 : Int64)) &&& (-8 : Int64))), .second] [])) (fun t9 k9 => XS.lstoreN X0.here hx rfl (hb hby d1_15) rfl (l' := #[.val (.long q1), .second, .val (.long (((((16 : Int64) + q1) + (8 : Int64)) - (1 : Int64)) &&& (-8 : Int64))), .second]) rfl k9) ?_
  show own_Go p e below F T0 (mkF m 16 #[.val (.long q1), .second, .val (.long (own_pad q1)), .second] [])
  refine own_st (T' := T0) (g' := (mkF m 17 #[.val (.long q1), .second, .val (.long (own_pad q1)), .second] [(.long (own_pad q1))])) (fun t9 k9 => XS.lloadN X0.here hx rfl (hb hby d1_16) rfl k9) ?_
  refine own_st (T' := T0) (g' := (mkF m 20 #[.val (.long q1), .second, .val (.long (own_pad q1)), .second] [(.long (524288 : Int64)), (.long (own_pad q1))])) (fun t9 k9 => X0.ldc2Long hx hown (mvT hZ (hw _ (List.mem_of_getElem? (i := 9) rfl))) (g := (mkF m 17 #[.val (.long q1), .second, .val (.long (own_pad q1)), .second] [(.long (own_pad q1))])) rfl (hb hby d1_17) t9 k9) ?_
  refine own_st (T' := T0) (g' := (mkF m 21 #[.val (.long q1), .second, .val (.long (own_pad q1)), .second] [(.int (lcmpW (own_pad q1) (524288 : Int64)))])) (fun t9 k9 => XS.lcmp X0.here hx rfl (hb hby d1_20) rfl k9) ?_
  by_cases hp : (own_pad q1) < (524288 : Int64)
  · refine own_st (T' := T0) (g' := (mkF m 32 #[.val (.long q1), .second, .val (.long (own_pad q1)), .second] [])) (fun t9 k9 => XS.ifYes X0.here hx rfl (pc0 := 21) (pc' := 32) rfl (hb hby d1_21) rfl ((if0 _ _).trans (tlt ((lw_lt _ _).mpr hp : (lcmpW (own_pad q1) (524288 : Int64)) < (0 : Int32))).1) (by decide) (by decide) k9) ?_
    refine own_st (T' := T0) (g' := (mkF m 33 #[.val (.long q1), .second, .val (.long (own_pad q1)), .second] [(.long (own_pad q1))])) (fun t9 k9 => XS.lloadN X0.here hx rfl (hb hby d1_32) rfl k9) ?_
    refine own_ret (v := some (.long (own_pad q1))) hF X0 (own_some hret) hlk (fun fs hr => X0.lreturnOut hx hret (hb hby d1_33) hr) ?_ (by decide) (by decide)
    try rw [e0]
    exact ⟨_, rfl, N0, rfl, Or.inl ⟨hp, rfl⟩⟩
  · refine own_st (T' := T0) (g' := (mkF m 24 #[.val (.long q1), .second, .val (.long (own_pad q1)), .second] [])) (fun t9 k9 => XS.ifNo X0.here hx rfl (hb hby d1_21) rfl ((if0 _ _).trans (flt (fun q => hp ((lw_lt _ _).mp q) : ¬ ((lcmpW (own_pad q1) (524288 : Int64)) < (0 : Int32)))).1) k9) ?_
    refine own_st (T' := T0) (g' := (mkF m 27 #[.val (.long q1), .second, .val (.long (own_pad q1)), .second] [(.long (2 : Int64))])) (fun t9 k9 => X0.ldc2Long hx hown (mvT hZ (hw _ (List.mem_of_getElem? (i := 10) rfl))) (g := (mkF m 24 #[.val (.long q1), .second, .val (.long (own_pad q1)), .second] [])) rfl (hb hby d1_24) t9 k9) ?_
    refine own_st (T' := T0) (g' := (mkF m 28 #[.val (.long q1), .second, .val (.long (own_pad q1)), .second] [(.long (own_pad q1)), (.long (2 : Int64))])) (fun t9 k9 => XS.lloadN X0.here hx rfl (hb hby d1_27) rfl k9) ?_
    refine own_st (T' := T0) (g' := (mkF m 29 #[.val (.long q1), .second, .val (.long (own_pad q1)), .second] [(.long ((2 : Int64) * (own_pad q1)))])) (fun t9 k9 => XS.lmul X0.here hx rfl (hb hby d1_28) rfl k9) ?_
    refine own_st (T' := T0) (g' := (mkF m 33 #[.val (.long q1), .second, .val (.long (own_pad q1)), .second] [(.long ((2 : Int64) * (own_pad q1)))])) (fun t9 k9 => XS.goto X0.here hx rfl (pc0 := 29) (pc' := 33) rfl (hb hby d1_29) (by decide) (by decide) k9) ?_
    refine own_ret (v := some (.long ((2 : Int64) * (own_pad q1)))) hF X0 (own_some hret) hlk (fun fs hr => X0.lreturnOut hx hret (hb hby d1_33) hr) ?_ (by decide) (by decide)
    try rw [e0]
    exact ⟨_, rfl, N0, rfl, Or.inr ⟨hp, rfl⟩⟩
theorem pn_0 : plainFor (⟨"com/example/newsweave/newsweave/core/HeapSizesOfArrayPinLaw", "law", "(JI)Z"⟩ : MethodName) = true := plainFor_of_name (by first | (simp [plainName, overriddenIn]; done) | decide +kernel)
set_option maxRecDepth 65536 in
set_option maxHeartbeats 40000000 in
theorem rm0 (l : Launch) (Z : State) (a0 : Array Value) (hw : ∀ d ∈ tables_1, d.before a0 Z = true) (q1 : Int64) (p2 : Int32) (h0 : Heap) (n0 : Nat) (Z0 : n0 ≤ h0.size)  :
    own_Met l Z x code maxLocals ret room_1 #[(.long q1), (.int p2)] h0 (fun v h L => v = some (.int (1 : Int32)) ∧ Fr n0 L) := by
  refine own_body pn_0 ?_
  intro p e s m below meth c T0 hZ hx hby hml hown hnm hret hlk X0 e0 F hF
  have N0 := Fr.nil n0
  have K0 := Keep.refl h0 []
  refine own_cast (g' := (mkF m 0 #[.val (.long q1), .second, .val (.int p2), .unset, .unset, .unset, .unset, .unset, .unset, .unset, .unset, .unset, .unset, .unset] [])) (by first | rfl | simp [entryFrame, mkF, argsToLocals, Value.category, maxLocals]) ?_
  refine own_st (T' := T0) (g' := (mkF m 1 #[.val (.long q1), .second, .val (.int p2), .unset, .unset, .unset, .unset, .unset, .unset, .unset, .unset, .unset, .unset, .unset] [(.int p2)])) (fun t9 k9 => XS.iloadN X0.here hx rfl (hb hby at_0) rfl k9) ?_
  refine own_st (T' := T0) (g' := (mkF m 2 #[.val (.long q1), .second, .val (.int p2), .unset, .unset, .unset, .unset, .unset, .unset, .unset, .unset, .unset, .unset, .unset] [(.int (3 : Int32)), (.int p2)])) (fun t9 k9 => XS.iconst X0.here hx rfl (hb hby at_1) k9) ?_
  refine own_st (T' := T0) (g' := (mkF m 3 #[.val (.long q1), .second, .val (.int p2), .unset, .unset, .unset, .unset, .unset, .unset, .unset, .unset, .unset, .unset, .unset] [(.int (p2 &&& (3 : Int32)))])) (fun t9 k9 => XS.iand X0.here hx rfl (hb hby at_2) rfl k9) ?_
  refine own_st (T' := T0) (g' := (mkF m 4 #[.val (.long q1), .second, .val (.int p2), .val (.int (p2 &&& (3 : Int32))), .unset, .unset, .unset, .unset, .unset, .unset, .unset, .unset, .unset, .unset] [])) (fun t9 k9 => XS.istoreN X0.here hx rfl (hb hby at_3) rfl (l' := #[.val (.long q1), .second, .val (.int p2), .val (.int (p2 &&& (3 : Int32))), .unset, .unset, .unset, .unset, .unset, .unset, .unset, .unset, .unset, .unset]) rfl k9) ?_
  have j59 : ∀ (e5 : Int64), 0 ≤ e5.toInt → e5.toInt < 1152921504606846976 → own_Go p e below F T0 (mkF m 59 #[.val (.long q1), .second, .val (.int p2), .val (.int (p2 &&& (3 : Int32))), .val (.long e5), .second, .unset, .unset, .unset, .unset, .unset, .unset, .unset, .unset] []) := by
    intro e5 hA0 hA1
    refine own_st (T' := T0) (g' := (mkF m 61 #[.val (.long q1), .second, .val (.int p2), .val (.int (p2 &&& (3 : Int32))), .val (.long e5), .second, .unset, .unset, .unset, .unset, .unset, .unset, .unset, .unset] [(.long e5)])) (fun t9 k9 => XS.lload X0.here hx rfl (hb hby at_59) rfl k9) ?_
    obtain ⟨_, _, ⟨T1, L1, k1, n1⟩, -, X1, ⟨Lc1, hQ1, l1, y1, z1⟩, st1⟩ := Jvm.LawKit.callS X0 hx (y := (⟨"com/example/newsweave/newsweave/core/HeapSizes", "ofArray", "(J)J"⟩ : MethodName)) hown (mvT hZ (hw _ (List.mem_of_getElem? (i := 2) rfl))) (mvT hZ (hw _ (List.mem_of_getElem? (i := 3) rfl))) (mvT hZ (hw _ (List.mem_of_getElem? (i := 4) rfl))) (mvT hZ (hw _ (List.mem_of_getElem? (i := 5) rfl))) (by decide) (own_back (W := 0) (rm1 l Z a0 hw e5 h0 n0 Z0) hZ (hw _ (List.mem_of_getElem? (i := 5) rfl)) (hw _ (List.mem_of_getElem? (i := 4) rfl)) (by decide) (by decide)) (g := (mkF m 61 #[.val (.long q1), .second, .val (.int p2), .val (.int (p2 &&& (3 : Int32))), .val (.long e5), .second, .unset, .unset, .unset, .unset, .unset, .unset, .unset, .unset] [(.long e5)])) rfl (by rw [hml]; rfl) (argsL := [(.long e5)]) (rest := []) (lenOf pd_0 rfl) rfl (by show 2 * 0 + _ ≤ _; exact Nat.le_of_eq rfl) (hb hby at_61) (fun _ _ => ⟨rfl, e0, (Nat.le_of_ble_eq_true rfl), (Nat.le_of_ble_eq_true rfl)⟩)
    dsimp only [Pt.U, Pt.locs, Pt.cells, Pt.slots] at X1 l1 y1 z1 st1 hQ1
    subst l1 y1 z1
    obtain ⟨r1, rfl, Nq1, he1, hr1⟩ := hQ1
    have N1 := Fr.app N0 Nq1
    have e1 : T1.heap = h0 := he1
    refine own_st (T' := T1) (g' := (mkF m 64 #[.val (.long q1), .second, .val (.int p2), .val (.int (p2 &&& (3 : Int32))), .val (.long e5), .second, .unset, .unset, .unset, .unset, .unset, .unset, .unset, .unset] [(.long r1)])) (fun t9 k9 => st1 t9 k9) ?_
    obtain ⟨hp1, hp2, hp3⟩ := own_pad_eq e5 hA0 hA1
    rcases hr1 with ⟨hs, rfl⟩ | ⟨hs, hr⟩
    · obtain ⟨l1, l2, l3⟩ := own_last e5 (own_pad e5) hA0 hA1 hp2 hp3 hp1
      refine own_st (T' := T1) (g' := (mkF m 66 #[.val (.long q1), .second, .val (.int p2), .val (.int (p2 &&& (3 : Int32))), .val (.long e5), .second, .val (.long (own_pad e5)), .second, .unset, .unset, .unset, .unset, .unset, .unset] [])) (fun t9 k9 => XS.lstore X1.here hx rfl (hb hby at_64) rfl (l' := #[.val (.long q1), .second, .val (.int p2), .val (.int (p2 &&& (3 : Int32))), .val (.long e5), .second, .val (.long (own_pad e5)), .second, .unset, .unset, .unset, .unset, .unset, .unset]) rfl k9) ?_
      refine own_st (T' := T1) (g' := (mkF m 69 #[.val (.long q1), .second, .val (.int p2), .val (.int (p2 &&& (3 : Int32))), .val (.long e5), .second, .val (.long (own_pad e5)), .second, .unset, .unset, .unset, .unset, .unset, .unset] [(.long (16 : Int64))])) (fun t9 k9 => X1.ldc2Long hx hown (mvT hZ (hw _ (List.mem_of_getElem? (i := 11) rfl))) (g := (mkF m 66 #[.val (.long q1), .second, .val (.int p2), .val (.int (p2 &&& (3 : Int32))), .val (.long e5), .second, .val (.long (own_pad e5)), .second, .unset, .unset, .unset, .unset, .unset, .unset] [])) rfl (hb hby at_66) t9 k9) ?_
      refine own_st (T' := T1) (g' := (mkF m 71 #[.val (.long q1), .second, .val (.int p2), .val (.int (p2 &&& (3 : Int32))), .val (.long e5), .second, .val (.long (own_pad e5)), .second, .unset, .unset, .unset, .unset, .unset, .unset] [(.long e5), (.long (16 : Int64))])) (fun t9 k9 => XS.lload X1.here hx rfl (hb hby at_69) rfl k9) ?_
      refine own_st (T' := T1) (g' := (mkF m 72 #[.val (.long q1), .second, .val (.int p2), .val (.int (p2 &&& (3 : Int32))), .val (.long e5), .second, .val (.long (own_pad e5)), .second, .unset, .unset, .unset, .unset, .unset, .unset] [(.long ((16 : Int64) + e5))])) (fun t9 k9 => XS.ladd X1.here hx rfl (hb hby at_71) rfl k9) ?_
      refine own_st (T' := T1) (g' := (mkF m 74 #[.val (.long q1), .second, .val (.int p2), .val (.int (p2 &&& (3 : Int32))), .val (.long e5), .second, .val (.long (own_pad e5)), .second, .val (.long ((16 : Int64) + e5)), .second, .unset, .unset, .unset, .unset] [])) (fun t9 k9 => XS.lstore X1.here hx rfl (hb hby at_72) rfl (l' := #[.val (.long q1), .second, .val (.int p2), .val (.int (p2 &&& (3 : Int32))), .val (.long e5), .second, .val (.long (own_pad e5)), .second, .val (.long ((16 : Int64) + e5)), .second, .unset, .unset, .unset, .unset]) rfl k9) ?_
      refine own_st (T' := T1) (g' := (mkF m 77 #[.val (.long q1), .second, .val (.int p2), .val (.int (p2 &&& (3 : Int32))), .val (.long e5), .second, .val (.long (own_pad e5)), .second, .val (.long ((16 : Int64) + e5)), .second, .unset, .unset, .unset, .unset] [(.long (524288 : Int64))])) (fun t9 k9 => X1.ldc2Long hx hown (mvT hZ (hw _ (List.mem_of_getElem? (i := 12) rfl))) (g := (mkF m 74 #[.val (.long q1), .second, .val (.int p2), .val (.int (p2 &&& (3 : Int32))), .val (.long e5), .second, .val (.long (own_pad e5)), .second, .val (.long ((16 : Int64) + e5)), .second, .unset, .unset, .unset, .unset] [])) rfl (hb hby at_74) t9 k9) ?_
      refine own_st (T' := T1) (g' := (mkF m 79 #[.val (.long q1), .second, .val (.int p2), .val (.int (p2 &&& (3 : Int32))), .val (.long e5), .second, .val (.long (own_pad e5)), .second, .val (.long ((16 : Int64) + e5)), .second, .val (.long (524288 : Int64)), .second, .unset, .unset] [])) (fun t9 k9 => XS.lstore X1.here hx rfl (hb hby at_77) rfl (l' := #[.val (.long q1), .second, .val (.int p2), .val (.int (p2 &&& (3 : Int32))), .val (.long e5), .second, .val (.long (own_pad e5)), .second, .val (.long ((16 : Int64) + e5)), .second, .val (.long (524288 : Int64)), .second, .unset, .unset]) rfl k9) ?_
      refine own_st (T' := T1) (g' := (mkF m 81 #[.val (.long q1), .second, .val (.int p2), .val (.int (p2 &&& (3 : Int32))), .val (.long e5), .second, .val (.long (own_pad e5)), .second, .val (.long ((16 : Int64) + e5)), .second, .val (.long (524288 : Int64)), .second, .unset, .unset] [(.long (own_pad e5))])) (fun t9 k9 => XS.lload X1.here hx rfl (hb hby at_79) rfl k9) ?_
      refine own_st (T' := T1) (g' := (mkF m 83 #[.val (.long q1), .second, .val (.int p2), .val (.int (p2 &&& (3 : Int32))), .val (.long e5), .second, .val (.long (own_pad e5)), .second, .val (.long ((16 : Int64) + e5)), .second, .val (.long (524288 : Int64)), .second, .unset, .unset] [(.long (524288 : Int64)), (.long (own_pad e5))])) (fun t9 k9 => XS.lload X1.here hx rfl (hb hby at_81) rfl k9) ?_
      refine own_st (T' := T1) (g' := (mkF m 84 #[.val (.long q1), .second, .val (.int p2), .val (.int (p2 &&& (3 : Int32))), .val (.long e5), .second, .val (.long (own_pad e5)), .second, .val (.long ((16 : Int64) + e5)), .second, .val (.long (524288 : Int64)), .second, .unset, .unset] [(.int (lcmpW (own_pad e5) (524288 : Int64)))])) (fun t9 k9 => XS.lcmp X1.here hx rfl (hb hby at_83) rfl k9) ?_
      refine own_st (T' := T1) (g' := (mkF m 87 #[.val (.long q1), .second, .val (.int p2), .val (.int (p2 &&& (3 : Int32))), .val (.long e5), .second, .val (.long (own_pad e5)), .second, .val (.long ((16 : Int64) + e5)), .second, .val (.long (524288 : Int64)), .second, .unset, .unset] [])) (fun t9 k9 => XS.ifNo X1.here hx rfl (hb hby at_84) rfl ((if0 _ _).trans (tlt ((lw_lt _ _).mpr hs : (lcmpW (own_pad e5) (524288 : Int64)) < (0 : Int32))).2.1) k9) ?_
      refine own_st (T' := T1) (g' := (mkF m 89 #[.val (.long q1), .second, .val (.int p2), .val (.int (p2 &&& (3 : Int32))), .val (.long e5), .second, .val (.long (own_pad e5)), .second, .val (.long ((16 : Int64) + e5)), .second, .val (.long (524288 : Int64)), .second, .unset, .unset] [(.long (own_pad e5))])) (fun t9 k9 => XS.lload X1.here hx rfl (hb hby at_87) rfl k9) ?_
      refine own_st (T' := T1) (g' := (mkF m 92 #[.val (.long q1), .second, .val (.int p2), .val (.int (p2 &&& (3 : Int32))), .val (.long e5), .second, .val (.long (own_pad e5)), .second, .val (.long ((16 : Int64) + e5)), .second, .val (.long (524288 : Int64)), .second, .unset, .unset] [(.long (8 : Int64)), (.long (own_pad e5))])) (fun t9 k9 => X1.ldc2Long hx hown (mvT hZ (hw _ (List.mem_of_getElem? (i := 14) rfl))) (g := (mkF m 89 #[.val (.long q1), .second, .val (.int p2), .val (.int (p2 &&& (3 : Int32))), .val (.long e5), .second, .val (.long (own_pad e5)), .second, .val (.long ((16 : Int64) + e5)), .second, .val (.long (524288 : Int64)), .second, .unset, .unset] [(.long (own_pad e5))])) rfl (hb hby at_89) t9 k9) ?_
      refine own_st (T' := T1) (g' := (mkF m 93 #[.val (.long q1), .second, .val (.int p2), .val (.int (p2 &&& (3 : Int32))), .val (.long e5), .second, .val (.long (own_pad e5)), .second, .val (.long ((16 : Int64) + e5)), .second, .val (.long (524288 : Int64)), .second, .unset, .unset] [(.long ((own_pad e5) - ((own_pad e5) / (8 : Int64)) * (8 : Int64)))])) (fun t9 k9 => XS.lrem X1.here hx rfl (hb hby at_92) rfl (by decide) k9) ?_
      refine own_st (T' := T1) (g' := (mkF m 94 #[.val (.long q1), .second, .val (.int p2), .val (.int (p2 &&& (3 : Int32))), .val (.long e5), .second, .val (.long (own_pad e5)), .second, .val (.long ((16 : Int64) + e5)), .second, .val (.long (524288 : Int64)), .second, .unset, .unset] [(.long (0 : Int64)), (.long ((own_pad e5) - ((own_pad e5) / (8 : Int64)) * (8 : Int64)))])) (fun t9 k9 => XS.lconst X1.here hx rfl (hb hby at_93) k9) ?_
      refine own_st (T' := T1) (g' := (mkF m 95 #[.val (.long q1), .second, .val (.int p2), .val (.int (p2 &&& (3 : Int32))), .val (.long e5), .second, .val (.long (own_pad e5)), .second, .val (.long ((16 : Int64) + e5)), .second, .val (.long (524288 : Int64)), .second, .unset, .unset] [(.int (lcmpW ((own_pad e5) - ((own_pad e5) / (8 : Int64)) * (8 : Int64)) (0 : Int64)))])) (fun t9 k9 => XS.lcmp X1.here hx rfl (hb hby at_94) rfl k9) ?_
      refine own_st (T' := T1) (g' := (mkF m 98 #[.val (.long q1), .second, .val (.int p2), .val (.int (p2 &&& (3 : Int32))), .val (.long e5), .second, .val (.long (own_pad e5)), .second, .val (.long ((16 : Int64) + e5)), .second, .val (.long (524288 : Int64)), .second, .unset, .unset] [])) (fun t9 k9 => XS.ifNo X1.here hx rfl (hb hby at_95) rfl ((if0 _ _).trans (teq ((lw_eq _ _).mpr l1 : (lcmpW ((own_pad e5) - ((own_pad e5) / (8 : Int64)) * (8 : Int64)) (0 : Int64)) = (0 : Int32))).2) k9) ?_
      refine own_st (T' := T1) (g' := (mkF m 100 #[.val (.long q1), .second, .val (.int p2), .val (.int (p2 &&& (3 : Int32))), .val (.long e5), .second, .val (.long (own_pad e5)), .second, .val (.long ((16 : Int64) + e5)), .second, .val (.long (524288 : Int64)), .second, .unset, .unset] [(.long (own_pad e5))])) (fun t9 k9 => XS.lload X1.here hx rfl (hb hby at_98) rfl k9) ?_
      refine own_st (T' := T1) (g' := (mkF m 102 #[.val (.long q1), .second, .val (.int p2), .val (.int (p2 &&& (3 : Int32))), .val (.long e5), .second, .val (.long (own_pad e5)), .second, .val (.long ((16 : Int64) + e5)), .second, .val (.long (524288 : Int64)), .second, .unset, .unset] [(.long ((16 : Int64) + e5)), (.long (own_pad e5))])) (fun t9 k9 => XS.lload X1.here hx rfl (hb hby at_100) rfl k9) ?_
      refine own_st (T' := T1) (g' := (mkF m 103 #[.val (.long q1), .second, .val (.int p2), .val (.int (p2 &&& (3 : Int32))), .val (.long e5), .second, .val (.long (own_pad e5)), .second, .val (.long ((16 : Int64) + e5)), .second, .val (.long (524288 : Int64)), .second, .unset, .unset] [(.int (lcmpW (own_pad e5) ((16 : Int64) + e5)))])) (fun t9 k9 => XS.lcmp X1.here hx rfl (hb hby at_102) rfl k9) ?_
      refine own_st (T' := T1) (g' := (mkF m 106 #[.val (.long q1), .second, .val (.int p2), .val (.int (p2 &&& (3 : Int32))), .val (.long e5), .second, .val (.long (own_pad e5)), .second, .val (.long ((16 : Int64) + e5)), .second, .val (.long (524288 : Int64)), .second, .unset, .unset] [])) (fun t9 k9 => XS.ifNo X1.here hx rfl (hb hby at_103) rfl ((if0 _ _).trans (flt (fun q => l2 ((lw_lt _ _).mp q) : ¬ ((lcmpW (own_pad e5) ((16 : Int64) + e5)) < (0 : Int32)))).1) k9) ?_
      refine own_st (T' := T1) (g' := (mkF m 108 #[.val (.long q1), .second, .val (.int p2), .val (.int (p2 &&& (3 : Int32))), .val (.long e5), .second, .val (.long (own_pad e5)), .second, .val (.long ((16 : Int64) + e5)), .second, .val (.long (524288 : Int64)), .second, .unset, .unset] [(.long (own_pad e5))])) (fun t9 k9 => XS.lload X1.here hx rfl (hb hby at_106) rfl k9) ?_
      refine own_st (T' := T1) (g' := (mkF m 110 #[.val (.long q1), .second, .val (.int p2), .val (.int (p2 &&& (3 : Int32))), .val (.long e5), .second, .val (.long (own_pad e5)), .second, .val (.long ((16 : Int64) + e5)), .second, .val (.long (524288 : Int64)), .second, .unset, .unset] [(.long ((16 : Int64) + e5)), (.long (own_pad e5))])) (fun t9 k9 => XS.lload X1.here hx rfl (hb hby at_108) rfl k9) ?_
      refine own_st (T' := T1) (g' := (mkF m 111 #[.val (.long q1), .second, .val (.int p2), .val (.int (p2 &&& (3 : Int32))), .val (.long e5), .second, .val (.long (own_pad e5)), .second, .val (.long ((16 : Int64) + e5)), .second, .val (.long (524288 : Int64)), .second, .unset, .unset] [(.long ((own_pad e5) - ((16 : Int64) + e5)))])) (fun t9 k9 => XS.lsub X1.here hx rfl (hb hby at_110) rfl k9) ?_
      refine own_st (T' := T1) (g' := (mkF m 114 #[.val (.long q1), .second, .val (.int p2), .val (.int (p2 &&& (3 : Int32))), .val (.long e5), .second, .val (.long (own_pad e5)), .second, .val (.long ((16 : Int64) + e5)), .second, .val (.long (524288 : Int64)), .second, .unset, .unset] [(.long (8 : Int64)), (.long ((own_pad e5) - ((16 : Int64) + e5)))])) (fun t9 k9 => X1.ldc2Long hx hown (mvT hZ (hw _ (List.mem_of_getElem? (i := 14) rfl))) (g := (mkF m 111 #[.val (.long q1), .second, .val (.int p2), .val (.int (p2 &&& (3 : Int32))), .val (.long e5), .second, .val (.long (own_pad e5)), .second, .val (.long ((16 : Int64) + e5)), .second, .val (.long (524288 : Int64)), .second, .unset, .unset] [(.long ((own_pad e5) - ((16 : Int64) + e5)))])) rfl (hb hby at_111) t9 k9) ?_
      refine own_st (T' := T1) (g' := (mkF m 115 #[.val (.long q1), .second, .val (.int p2), .val (.int (p2 &&& (3 : Int32))), .val (.long e5), .second, .val (.long (own_pad e5)), .second, .val (.long ((16 : Int64) + e5)), .second, .val (.long (524288 : Int64)), .second, .unset, .unset] [(.int (lcmpW ((own_pad e5) - ((16 : Int64) + e5)) (8 : Int64)))])) (fun t9 k9 => XS.lcmp X1.here hx rfl (hb hby at_114) rfl k9) ?_
      refine own_st (T' := T1) (g' := (mkF m 118 #[.val (.long q1), .second, .val (.int p2), .val (.int (p2 &&& (3 : Int32))), .val (.long e5), .second, .val (.long (own_pad e5)), .second, .val (.long ((16 : Int64) + e5)), .second, .val (.long (524288 : Int64)), .second, .unset, .unset] [])) (fun t9 k9 => XS.ifNo X1.here hx rfl (hb hby at_115) rfl ((if0 _ _).trans (tlt ((lw_lt _ _).mpr l3 : (lcmpW ((own_pad e5) - ((16 : Int64) + e5)) (8 : Int64)) < (0 : Int32))).2.1) k9) ?_
      refine own_st (T' := T1) (g' := (mkF m 119 #[.val (.long q1), .second, .val (.int p2), .val (.int (p2 &&& (3 : Int32))), .val (.long e5), .second, .val (.long (own_pad e5)), .second, .val (.long ((16 : Int64) + e5)), .second, .val (.long (524288 : Int64)), .second, .unset, .unset] [(.int (1 : Int32))])) (fun t9 k9 => XS.iconst X1.here hx rfl (hb hby at_118) k9) ?_
      refine own_st (T' := T1) (g' := (mkF m 123 #[.val (.long q1), .second, .val (.int p2), .val (.int (p2 &&& (3 : Int32))), .val (.long e5), .second, .val (.long (own_pad e5)), .second, .val (.long ((16 : Int64) + e5)), .second, .val (.long (524288 : Int64)), .second, .unset, .unset] [(.int (1 : Int32))])) (fun t9 k9 => XS.goto X1.here hx rfl (pc0 := 119) (pc' := 123) rfl (hb hby at_119) (by decide) (by decide) k9) ?_
      refine own_ret (v := some (.int (1 : Int32))) hF X1 (own_some hret) hlk (fun fs hr => retN X1 hx (t := .boolean) hret (by simp) (hb hby at_123) hr) ?_ (by decide) (by decide)
      try rw [e1]
      exact ⟨rfl, N1⟩
    · have hs' : 524288 ≤ (own_pad e5).toInt := by
        have := mt own_lt hs
        have k : (524288 : Int64).toInt = 524288 := by decide
        omega
      have hm := c_lmul (2 : Int64) (own_pad e5)
      have k2 : (2 : Int64).toInt = 2 := by decide
      rw [k2, ← hr] at hm
      have rr := rng64 r1
      have hri : r1.toInt = 2 * (own_pad e5).toInt := by omega
      have hh := own_half r1 (by omega)
      have hpp : (r1 / (2 : Int64)).toInt = (own_pad e5).toInt := by omega
      have k5 : (524288 : Int64).toInt = 524288 := by decide
      obtain ⟨l1, l2, l3⟩ := own_last e5 (r1 / (2 : Int64)) hA0 hA1 (by omega) (by omega) (by omega)
      refine own_st (T' := T1) (g' := (mkF m 66 #[.val (.long q1), .second, .val (.int p2), .val (.int (p2 &&& (3 : Int32))), .val (.long e5), .second, .val (.long r1), .second, .unset, .unset, .unset, .unset, .unset, .unset] [])) (fun t9 k9 => XS.lstore X1.here hx rfl (hb hby at_64) rfl (l' := #[.val (.long q1), .second, .val (.int p2), .val (.int (p2 &&& (3 : Int32))), .val (.long e5), .second, .val (.long r1), .second, .unset, .unset, .unset, .unset, .unset, .unset]) rfl k9) ?_
      refine own_st (T' := T1) (g' := (mkF m 69 #[.val (.long q1), .second, .val (.int p2), .val (.int (p2 &&& (3 : Int32))), .val (.long e5), .second, .val (.long r1), .second, .unset, .unset, .unset, .unset, .unset, .unset] [(.long (16 : Int64))])) (fun t9 k9 => X1.ldc2Long hx hown (mvT hZ (hw _ (List.mem_of_getElem? (i := 11) rfl))) (g := (mkF m 66 #[.val (.long q1), .second, .val (.int p2), .val (.int (p2 &&& (3 : Int32))), .val (.long e5), .second, .val (.long r1), .second, .unset, .unset, .unset, .unset, .unset, .unset] [])) rfl (hb hby at_66) t9 k9) ?_
      refine own_st (T' := T1) (g' := (mkF m 71 #[.val (.long q1), .second, .val (.int p2), .val (.int (p2 &&& (3 : Int32))), .val (.long e5), .second, .val (.long r1), .second, .unset, .unset, .unset, .unset, .unset, .unset] [(.long e5), (.long (16 : Int64))])) (fun t9 k9 => XS.lload X1.here hx rfl (hb hby at_69) rfl k9) ?_
      refine own_st (T' := T1) (g' := (mkF m 72 #[.val (.long q1), .second, .val (.int p2), .val (.int (p2 &&& (3 : Int32))), .val (.long e5), .second, .val (.long r1), .second, .unset, .unset, .unset, .unset, .unset, .unset] [(.long ((16 : Int64) + e5))])) (fun t9 k9 => XS.ladd X1.here hx rfl (hb hby at_71) rfl k9) ?_
      refine own_st (T' := T1) (g' := (mkF m 74 #[.val (.long q1), .second, .val (.int p2), .val (.int (p2 &&& (3 : Int32))), .val (.long e5), .second, .val (.long r1), .second, .val (.long ((16 : Int64) + e5)), .second, .unset, .unset, .unset, .unset] [])) (fun t9 k9 => XS.lstore X1.here hx rfl (hb hby at_72) rfl (l' := #[.val (.long q1), .second, .val (.int p2), .val (.int (p2 &&& (3 : Int32))), .val (.long e5), .second, .val (.long r1), .second, .val (.long ((16 : Int64) + e5)), .second, .unset, .unset, .unset, .unset]) rfl k9) ?_
      refine own_st (T' := T1) (g' := (mkF m 77 #[.val (.long q1), .second, .val (.int p2), .val (.int (p2 &&& (3 : Int32))), .val (.long e5), .second, .val (.long r1), .second, .val (.long ((16 : Int64) + e5)), .second, .unset, .unset, .unset, .unset] [(.long (524288 : Int64))])) (fun t9 k9 => X1.ldc2Long hx hown (mvT hZ (hw _ (List.mem_of_getElem? (i := 12) rfl))) (g := (mkF m 74 #[.val (.long q1), .second, .val (.int p2), .val (.int (p2 &&& (3 : Int32))), .val (.long e5), .second, .val (.long r1), .second, .val (.long ((16 : Int64) + e5)), .second, .unset, .unset, .unset, .unset] [])) rfl (hb hby at_74) t9 k9) ?_
      refine own_st (T' := T1) (g' := (mkF m 79 #[.val (.long q1), .second, .val (.int p2), .val (.int (p2 &&& (3 : Int32))), .val (.long e5), .second, .val (.long r1), .second, .val (.long ((16 : Int64) + e5)), .second, .val (.long (524288 : Int64)), .second, .unset, .unset] [])) (fun t9 k9 => XS.lstore X1.here hx rfl (hb hby at_77) rfl (l' := #[.val (.long q1), .second, .val (.int p2), .val (.int (p2 &&& (3 : Int32))), .val (.long e5), .second, .val (.long r1), .second, .val (.long ((16 : Int64) + e5)), .second, .val (.long (524288 : Int64)), .second, .unset, .unset]) rfl k9) ?_
      refine own_st (T' := T1) (g' := (mkF m 81 #[.val (.long q1), .second, .val (.int p2), .val (.int (p2 &&& (3 : Int32))), .val (.long e5), .second, .val (.long r1), .second, .val (.long ((16 : Int64) + e5)), .second, .val (.long (524288 : Int64)), .second, .unset, .unset] [(.long r1)])) (fun t9 k9 => XS.lload X1.here hx rfl (hb hby at_79) rfl k9) ?_
      refine own_st (T' := T1) (g' := (mkF m 83 #[.val (.long q1), .second, .val (.int p2), .val (.int (p2 &&& (3 : Int32))), .val (.long e5), .second, .val (.long r1), .second, .val (.long ((16 : Int64) + e5)), .second, .val (.long (524288 : Int64)), .second, .unset, .unset] [(.long (524288 : Int64)), (.long r1)])) (fun t9 k9 => XS.lload X1.here hx rfl (hb hby at_81) rfl k9) ?_
      refine own_st (T' := T1) (g' := (mkF m 84 #[.val (.long q1), .second, .val (.int p2), .val (.int (p2 &&& (3 : Int32))), .val (.long e5), .second, .val (.long r1), .second, .val (.long ((16 : Int64) + e5)), .second, .val (.long (524288 : Int64)), .second, .unset, .unset] [(.int (lcmpW r1 (524288 : Int64)))])) (fun t9 k9 => XS.lcmp X1.here hx rfl (hb hby at_83) rfl k9) ?_
      refine own_st (T' := T1) (g' := (mkF m 124 #[.val (.long q1), .second, .val (.int p2), .val (.int (p2 &&& (3 : Int32))), .val (.long e5), .second, .val (.long r1), .second, .val (.long ((16 : Int64) + e5)), .second, .val (.long (524288 : Int64)), .second, .unset, .unset] [])) (fun t9 k9 => XS.ifYes X1.here hx rfl (pc0 := 84) (pc' := 124) rfl (hb hby at_84) rfl ((if0 _ _).trans (flt (fun q => (own_nlt (by omega)) ((lw_lt _ _).mp q) : ¬ ((lcmpW r1 (524288 : Int64)) < (0 : Int32)))).2.1) (by decide) (by decide) k9) ?_
      refine own_st (T' := T1) (g' := (mkF m 126 #[.val (.long q1), .second, .val (.int p2), .val (.int (p2 &&& (3 : Int32))), .val (.long e5), .second, .val (.long r1), .second, .val (.long ((16 : Int64) + e5)), .second, .val (.long (524288 : Int64)), .second, .unset, .unset] [(.long r1)])) (fun t9 k9 => XS.lload X1.here hx rfl (hb hby at_124) rfl k9) ?_
      refine own_st (T' := T1) (g' := (mkF m 129 #[.val (.long q1), .second, .val (.int p2), .val (.int (p2 &&& (3 : Int32))), .val (.long e5), .second, .val (.long r1), .second, .val (.long ((16 : Int64) + e5)), .second, .val (.long (524288 : Int64)), .second, .unset, .unset] [(.long (2 : Int64)), (.long r1)])) (fun t9 k9 => X1.ldc2Long hx hown (mvT hZ (hw _ (List.mem_of_getElem? (i := 13) rfl))) (g := (mkF m 126 #[.val (.long q1), .second, .val (.int p2), .val (.int (p2 &&& (3 : Int32))), .val (.long e5), .second, .val (.long r1), .second, .val (.long ((16 : Int64) + e5)), .second, .val (.long (524288 : Int64)), .second, .unset, .unset] [(.long r1)])) rfl (hb hby at_126) t9 k9) ?_
      refine own_st (T' := T1) (g' := (mkF m 130 #[.val (.long q1), .second, .val (.int p2), .val (.int (p2 &&& (3 : Int32))), .val (.long e5), .second, .val (.long r1), .second, .val (.long ((16 : Int64) + e5)), .second, .val (.long (524288 : Int64)), .second, .unset, .unset] [(.long (r1 - (r1 / (2 : Int64)) * (2 : Int64)))])) (fun t9 k9 => XS.lrem X1.here hx rfl (hb hby at_129) rfl (by decide) k9) ?_
      refine own_st (T' := T1) (g' := (mkF m 131 #[.val (.long q1), .second, .val (.int p2), .val (.int (p2 &&& (3 : Int32))), .val (.long e5), .second, .val (.long r1), .second, .val (.long ((16 : Int64) + e5)), .second, .val (.long (524288 : Int64)), .second, .unset, .unset] [(.long (0 : Int64)), (.long (r1 - (r1 / (2 : Int64)) * (2 : Int64)))])) (fun t9 k9 => XS.lconst X1.here hx rfl (hb hby at_130) k9) ?_
      refine own_st (T' := T1) (g' := (mkF m 132 #[.val (.long q1), .second, .val (.int p2), .val (.int (p2 &&& (3 : Int32))), .val (.long e5), .second, .val (.long r1), .second, .val (.long ((16 : Int64) + e5)), .second, .val (.long (524288 : Int64)), .second, .unset, .unset] [(.int (lcmpW (r1 - (r1 / (2 : Int64)) * (2 : Int64)) (0 : Int64)))])) (fun t9 k9 => XS.lcmp X1.here hx rfl (hb hby at_131) rfl k9) ?_
      refine own_st (T' := T1) (g' := (mkF m 137 #[.val (.long q1), .second, .val (.int p2), .val (.int (p2 &&& (3 : Int32))), .val (.long e5), .second, .val (.long r1), .second, .val (.long ((16 : Int64) + e5)), .second, .val (.long (524288 : Int64)), .second, .unset, .unset] [])) (fun t9 k9 => XS.ifYes X1.here hx rfl (pc0 := 132) (pc' := 137) rfl (hb hby at_132) rfl ((if0 _ _).trans (teq ((lw_eq _ _).mpr (own_rem0 r1 2 2 (by decide) (by omega) (by omega)) : (lcmpW (r1 - (r1 / (2 : Int64)) * (2 : Int64)) (0 : Int64)) = (0 : Int32))).1) (by decide) (by decide) k9) ?_
      refine own_st (T' := T1) (g' := (mkF m 139 #[.val (.long q1), .second, .val (.int p2), .val (.int (p2 &&& (3 : Int32))), .val (.long e5), .second, .val (.long r1), .second, .val (.long ((16 : Int64) + e5)), .second, .val (.long (524288 : Int64)), .second, .unset, .unset] [(.long r1)])) (fun t9 k9 => XS.lload X1.here hx rfl (hb hby at_137) rfl k9) ?_
      refine own_st (T' := T1) (g' := (mkF m 142 #[.val (.long q1), .second, .val (.int p2), .val (.int (p2 &&& (3 : Int32))), .val (.long e5), .second, .val (.long r1), .second, .val (.long ((16 : Int64) + e5)), .second, .val (.long (524288 : Int64)), .second, .unset, .unset] [(.long (2 : Int64)), (.long r1)])) (fun t9 k9 => X1.ldc2Long hx hown (mvT hZ (hw _ (List.mem_of_getElem? (i := 13) rfl))) (g := (mkF m 139 #[.val (.long q1), .second, .val (.int p2), .val (.int (p2 &&& (3 : Int32))), .val (.long e5), .second, .val (.long r1), .second, .val (.long ((16 : Int64) + e5)), .second, .val (.long (524288 : Int64)), .second, .unset, .unset] [(.long r1)])) rfl (hb hby at_139) t9 k9) ?_
      refine own_st (T' := T1) (g' := (mkF m 143 #[.val (.long q1), .second, .val (.int p2), .val (.int (p2 &&& (3 : Int32))), .val (.long e5), .second, .val (.long r1), .second, .val (.long ((16 : Int64) + e5)), .second, .val (.long (524288 : Int64)), .second, .unset, .unset] [(.long (r1 / (2 : Int64)))])) (fun t9 k9 => XS.ldiv X1.here hx rfl (hb hby at_142) rfl (by decide) k9) ?_
      refine own_st (T' := T1) (g' := (mkF m 145 #[.val (.long q1), .second, .val (.int p2), .val (.int (p2 &&& (3 : Int32))), .val (.long e5), .second, .val (.long r1), .second, .val (.long ((16 : Int64) + e5)), .second, .val (.long (524288 : Int64)), .second, .val (.long (r1 / (2 : Int64))), .second] [])) (fun t9 k9 => XS.lstore X1.here hx rfl (hb hby at_143) rfl (l' := #[.val (.long q1), .second, .val (.int p2), .val (.int (p2 &&& (3 : Int32))), .val (.long e5), .second, .val (.long r1), .second, .val (.long ((16 : Int64) + e5)), .second, .val (.long (524288 : Int64)), .second, .val (.long (r1 / (2 : Int64))), .second]) rfl k9) ?_
      refine own_st (T' := T1) (g' := (mkF m 147 #[.val (.long q1), .second, .val (.int p2), .val (.int (p2 &&& (3 : Int32))), .val (.long e5), .second, .val (.long r1), .second, .val (.long ((16 : Int64) + e5)), .second, .val (.long (524288 : Int64)), .second, .val (.long (r1 / (2 : Int64))), .second] [(.long (r1 / (2 : Int64)))])) (fun t9 k9 => XS.lload X1.here hx rfl (hb hby at_145) rfl k9) ?_
      refine own_st (T' := T1) (g' := (mkF m 149 #[.val (.long q1), .second, .val (.int p2), .val (.int (p2 &&& (3 : Int32))), .val (.long e5), .second, .val (.long r1), .second, .val (.long ((16 : Int64) + e5)), .second, .val (.long (524288 : Int64)), .second, .val (.long (r1 / (2 : Int64))), .second] [(.long (524288 : Int64)), (.long (r1 / (2 : Int64)))])) (fun t9 k9 => XS.lload X1.here hx rfl (hb hby at_147) rfl k9) ?_
      refine own_st (T' := T1) (g' := (mkF m 150 #[.val (.long q1), .second, .val (.int p2), .val (.int (p2 &&& (3 : Int32))), .val (.long e5), .second, .val (.long r1), .second, .val (.long ((16 : Int64) + e5)), .second, .val (.long (524288 : Int64)), .second, .val (.long (r1 / (2 : Int64))), .second] [(.int (lcmpW (r1 / (2 : Int64)) (524288 : Int64)))])) (fun t9 k9 => XS.lcmp X1.here hx rfl (hb hby at_149) rfl k9) ?_
      refine own_st (T' := T1) (g' := (mkF m 153 #[.val (.long q1), .second, .val (.int p2), .val (.int (p2 &&& (3 : Int32))), .val (.long e5), .second, .val (.long r1), .second, .val (.long ((16 : Int64) + e5)), .second, .val (.long (524288 : Int64)), .second, .val (.long (r1 / (2 : Int64))), .second] [])) (fun t9 k9 => XS.ifNo X1.here hx rfl (hb hby at_150) rfl ((if0 _ _).trans (flt (fun q => (own_nlt (by omega)) ((lw_lt _ _).mp q) : ¬ ((lcmpW (r1 / (2 : Int64)) (524288 : Int64)) < (0 : Int32)))).1) k9) ?_
      refine own_st (T' := T1) (g' := (mkF m 155 #[.val (.long q1), .second, .val (.int p2), .val (.int (p2 &&& (3 : Int32))), .val (.long e5), .second, .val (.long r1), .second, .val (.long ((16 : Int64) + e5)), .second, .val (.long (524288 : Int64)), .second, .val (.long (r1 / (2 : Int64))), .second] [(.long (r1 / (2 : Int64)))])) (fun t9 k9 => XS.lload X1.here hx rfl (hb hby at_153) rfl k9) ?_
      refine own_st (T' := T1) (g' := (mkF m 158 #[.val (.long q1), .second, .val (.int p2), .val (.int (p2 &&& (3 : Int32))), .val (.long e5), .second, .val (.long r1), .second, .val (.long ((16 : Int64) + e5)), .second, .val (.long (524288 : Int64)), .second, .val (.long (r1 / (2 : Int64))), .second] [(.long (8 : Int64)), (.long (r1 / (2 : Int64)))])) (fun t9 k9 => X1.ldc2Long hx hown (mvT hZ (hw _ (List.mem_of_getElem? (i := 14) rfl))) (g := (mkF m 155 #[.val (.long q1), .second, .val (.int p2), .val (.int (p2 &&& (3 : Int32))), .val (.long e5), .second, .val (.long r1), .second, .val (.long ((16 : Int64) + e5)), .second, .val (.long (524288 : Int64)), .second, .val (.long (r1 / (2 : Int64))), .second] [(.long (r1 / (2 : Int64)))])) rfl (hb hby at_155) t9 k9) ?_
      refine own_st (T' := T1) (g' := (mkF m 159 #[.val (.long q1), .second, .val (.int p2), .val (.int (p2 &&& (3 : Int32))), .val (.long e5), .second, .val (.long r1), .second, .val (.long ((16 : Int64) + e5)), .second, .val (.long (524288 : Int64)), .second, .val (.long (r1 / (2 : Int64))), .second] [(.long ((r1 / (2 : Int64)) - ((r1 / (2 : Int64)) / (8 : Int64)) * (8 : Int64)))])) (fun t9 k9 => XS.lrem X1.here hx rfl (hb hby at_158) rfl (by decide) k9) ?_
      refine own_st (T' := T1) (g' := (mkF m 160 #[.val (.long q1), .second, .val (.int p2), .val (.int (p2 &&& (3 : Int32))), .val (.long e5), .second, .val (.long r1), .second, .val (.long ((16 : Int64) + e5)), .second, .val (.long (524288 : Int64)), .second, .val (.long (r1 / (2 : Int64))), .second] [(.long (0 : Int64)), (.long ((r1 / (2 : Int64)) - ((r1 / (2 : Int64)) / (8 : Int64)) * (8 : Int64)))])) (fun t9 k9 => XS.lconst X1.here hx rfl (hb hby at_159) k9) ?_
      refine own_st (T' := T1) (g' := (mkF m 161 #[.val (.long q1), .second, .val (.int p2), .val (.int (p2 &&& (3 : Int32))), .val (.long e5), .second, .val (.long r1), .second, .val (.long ((16 : Int64) + e5)), .second, .val (.long (524288 : Int64)), .second, .val (.long (r1 / (2 : Int64))), .second] [(.int (lcmpW ((r1 / (2 : Int64)) - ((r1 / (2 : Int64)) / (8 : Int64)) * (8 : Int64)) (0 : Int64)))])) (fun t9 k9 => XS.lcmp X1.here hx rfl (hb hby at_160) rfl k9) ?_
      refine own_st (T' := T1) (g' := (mkF m 164 #[.val (.long q1), .second, .val (.int p2), .val (.int (p2 &&& (3 : Int32))), .val (.long e5), .second, .val (.long r1), .second, .val (.long ((16 : Int64) + e5)), .second, .val (.long (524288 : Int64)), .second, .val (.long (r1 / (2 : Int64))), .second] [])) (fun t9 k9 => XS.ifNo X1.here hx rfl (hb hby at_161) rfl ((if0 _ _).trans (teq ((lw_eq _ _).mpr l1 : (lcmpW ((r1 / (2 : Int64)) - ((r1 / (2 : Int64)) / (8 : Int64)) * (8 : Int64)) (0 : Int64)) = (0 : Int32))).2) k9) ?_
      refine own_st (T' := T1) (g' := (mkF m 166 #[.val (.long q1), .second, .val (.int p2), .val (.int (p2 &&& (3 : Int32))), .val (.long e5), .second, .val (.long r1), .second, .val (.long ((16 : Int64) + e5)), .second, .val (.long (524288 : Int64)), .second, .val (.long (r1 / (2 : Int64))), .second] [(.long (r1 / (2 : Int64)))])) (fun t9 k9 => XS.lload X1.here hx rfl (hb hby at_164) rfl k9) ?_
      refine own_st (T' := T1) (g' := (mkF m 168 #[.val (.long q1), .second, .val (.int p2), .val (.int (p2 &&& (3 : Int32))), .val (.long e5), .second, .val (.long r1), .second, .val (.long ((16 : Int64) + e5)), .second, .val (.long (524288 : Int64)), .second, .val (.long (r1 / (2 : Int64))), .second] [(.long ((16 : Int64) + e5)), (.long (r1 / (2 : Int64)))])) (fun t9 k9 => XS.lload X1.here hx rfl (hb hby at_166) rfl k9) ?_
      refine own_st (T' := T1) (g' := (mkF m 169 #[.val (.long q1), .second, .val (.int p2), .val (.int (p2 &&& (3 : Int32))), .val (.long e5), .second, .val (.long r1), .second, .val (.long ((16 : Int64) + e5)), .second, .val (.long (524288 : Int64)), .second, .val (.long (r1 / (2 : Int64))), .second] [(.int (lcmpW (r1 / (2 : Int64)) ((16 : Int64) + e5)))])) (fun t9 k9 => XS.lcmp X1.here hx rfl (hb hby at_168) rfl k9) ?_
      refine own_st (T' := T1) (g' := (mkF m 172 #[.val (.long q1), .second, .val (.int p2), .val (.int (p2 &&& (3 : Int32))), .val (.long e5), .second, .val (.long r1), .second, .val (.long ((16 : Int64) + e5)), .second, .val (.long (524288 : Int64)), .second, .val (.long (r1 / (2 : Int64))), .second] [])) (fun t9 k9 => XS.ifNo X1.here hx rfl (hb hby at_169) rfl ((if0 _ _).trans (flt (fun q => l2 ((lw_lt _ _).mp q) : ¬ ((lcmpW (r1 / (2 : Int64)) ((16 : Int64) + e5)) < (0 : Int32)))).1) k9) ?_
      refine own_st (T' := T1) (g' := (mkF m 174 #[.val (.long q1), .second, .val (.int p2), .val (.int (p2 &&& (3 : Int32))), .val (.long e5), .second, .val (.long r1), .second, .val (.long ((16 : Int64) + e5)), .second, .val (.long (524288 : Int64)), .second, .val (.long (r1 / (2 : Int64))), .second] [(.long (r1 / (2 : Int64)))])) (fun t9 k9 => XS.lload X1.here hx rfl (hb hby at_172) rfl k9) ?_
      refine own_st (T' := T1) (g' := (mkF m 176 #[.val (.long q1), .second, .val (.int p2), .val (.int (p2 &&& (3 : Int32))), .val (.long e5), .second, .val (.long r1), .second, .val (.long ((16 : Int64) + e5)), .second, .val (.long (524288 : Int64)), .second, .val (.long (r1 / (2 : Int64))), .second] [(.long ((16 : Int64) + e5)), (.long (r1 / (2 : Int64)))])) (fun t9 k9 => XS.lload X1.here hx rfl (hb hby at_174) rfl k9) ?_
      refine own_st (T' := T1) (g' := (mkF m 177 #[.val (.long q1), .second, .val (.int p2), .val (.int (p2 &&& (3 : Int32))), .val (.long e5), .second, .val (.long r1), .second, .val (.long ((16 : Int64) + e5)), .second, .val (.long (524288 : Int64)), .second, .val (.long (r1 / (2 : Int64))), .second] [(.long ((r1 / (2 : Int64)) - ((16 : Int64) + e5)))])) (fun t9 k9 => XS.lsub X1.here hx rfl (hb hby at_176) rfl k9) ?_
      refine own_st (T' := T1) (g' := (mkF m 180 #[.val (.long q1), .second, .val (.int p2), .val (.int (p2 &&& (3 : Int32))), .val (.long e5), .second, .val (.long r1), .second, .val (.long ((16 : Int64) + e5)), .second, .val (.long (524288 : Int64)), .second, .val (.long (r1 / (2 : Int64))), .second] [(.long (8 : Int64)), (.long ((r1 / (2 : Int64)) - ((16 : Int64) + e5)))])) (fun t9 k9 => X1.ldc2Long hx hown (mvT hZ (hw _ (List.mem_of_getElem? (i := 14) rfl))) (g := (mkF m 177 #[.val (.long q1), .second, .val (.int p2), .val (.int (p2 &&& (3 : Int32))), .val (.long e5), .second, .val (.long r1), .second, .val (.long ((16 : Int64) + e5)), .second, .val (.long (524288 : Int64)), .second, .val (.long (r1 / (2 : Int64))), .second] [(.long ((r1 / (2 : Int64)) - ((16 : Int64) + e5)))])) rfl (hb hby at_177) t9 k9) ?_
      refine own_st (T' := T1) (g' := (mkF m 181 #[.val (.long q1), .second, .val (.int p2), .val (.int (p2 &&& (3 : Int32))), .val (.long e5), .second, .val (.long r1), .second, .val (.long ((16 : Int64) + e5)), .second, .val (.long (524288 : Int64)), .second, .val (.long (r1 / (2 : Int64))), .second] [(.int (lcmpW ((r1 / (2 : Int64)) - ((16 : Int64) + e5)) (8 : Int64)))])) (fun t9 k9 => XS.lcmp X1.here hx rfl (hb hby at_180) rfl k9) ?_
      refine own_st (T' := T1) (g' := (mkF m 184 #[.val (.long q1), .second, .val (.int p2), .val (.int (p2 &&& (3 : Int32))), .val (.long e5), .second, .val (.long r1), .second, .val (.long ((16 : Int64) + e5)), .second, .val (.long (524288 : Int64)), .second, .val (.long (r1 / (2 : Int64))), .second] [])) (fun t9 k9 => XS.ifNo X1.here hx rfl (hb hby at_181) rfl ((if0 _ _).trans (tlt ((lw_lt _ _).mpr l3 : (lcmpW ((r1 / (2 : Int64)) - ((16 : Int64) + e5)) (8 : Int64)) < (0 : Int32))).2.1) k9) ?_
      refine own_st (T' := T1) (g' := (mkF m 185 #[.val (.long q1), .second, .val (.int p2), .val (.int (p2 &&& (3 : Int32))), .val (.long e5), .second, .val (.long r1), .second, .val (.long ((16 : Int64) + e5)), .second, .val (.long (524288 : Int64)), .second, .val (.long (r1 / (2 : Int64))), .second] [(.int (1 : Int32))])) (fun t9 k9 => XS.iconst X1.here hx rfl (hb hby at_184) k9) ?_
      refine own_st (T' := T1) (g' := (mkF m 189 #[.val (.long q1), .second, .val (.int p2), .val (.int (p2 &&& (3 : Int32))), .val (.long e5), .second, .val (.long r1), .second, .val (.long ((16 : Int64) + e5)), .second, .val (.long (524288 : Int64)), .second, .val (.long (r1 / (2 : Int64))), .second] [(.int (1 : Int32))])) (fun t9 k9 => XS.goto X1.here hx rfl (pc0 := 185) (pc' := 189) rfl (hb hby at_185) (by decide) (by decide) k9) ?_
      refine own_ret (v := some (.int (1 : Int32))) hF X1 (own_some hret) hlk (fun fs hr => retN X1 hx (t := .boolean) hret (by simp) (hb hby at_189) hr) ?_ (by decide) (by decide)
      try rw [e1]
      exact ⟨rfl, N1⟩
  refine own_st (T' := T0) (g' := (mkF m 5 #[.val (.long q1), .second, .val (.int p2), .val (.int (p2 &&& (3 : Int32))), .unset, .unset, .unset, .unset, .unset, .unset, .unset, .unset, .unset, .unset] [(.int (p2 &&& (3 : Int32)))])) (fun t9 k9 => XS.iloadN X0.here hx rfl (hb hby at_4) rfl k9) ?_
  by_cases hk0 : (p2 &&& (3 : Int32)) = (0 : Int32)
  · refine own_st (T' := T0) (g' := (mkF m 8 #[.val (.long q1), .second, .val (.int p2), .val (.int (p2 &&& (3 : Int32))), .unset, .unset, .unset, .unset, .unset, .unset, .unset, .unset, .unset, .unset] [])) (fun t9 k9 => XS.ifNo X0.here hx rfl (hb hby at_5) rfl ((if0 _ _).trans (teq hk0).2) k9) ?_
    refine own_st (T' := T0) (g' := (mkF m 9 #[.val (.long q1), .second, .val (.int p2), .val (.int (p2 &&& (3 : Int32))), .unset, .unset, .unset, .unset, .unset, .unset, .unset, .unset, .unset, .unset] [(.long q1)])) (fun t9 k9 => XS.lloadN X0.here hx rfl (hb hby at_8) rfl k9) ?_
    refine own_st (T' := T0) (g' := (mkF m 12 #[.val (.long q1), .second, .val (.int p2), .val (.int (p2 &&& (3 : Int32))), .unset, .unset, .unset, .unset, .unset, .unset, .unset, .unset, .unset, .unset] [(.long (1152921504606846975 : Int64)), (.long q1)])) (fun t9 k9 => X0.ldc2Long hx hown (mvT hZ (hw _ (List.mem_of_getElem? (i := 15) rfl))) (g := (mkF m 9 #[.val (.long q1), .second, .val (.int p2), .val (.int (p2 &&& (3 : Int32))), .unset, .unset, .unset, .unset, .unset, .unset, .unset, .unset, .unset, .unset] [(.long q1)])) rfl (hb hby at_9) t9 k9) ?_
    refine own_st (T' := T0) (g' := (mkF m 13 #[.val (.long q1), .second, .val (.int p2), .val (.int (p2 &&& (3 : Int32))), .unset, .unset, .unset, .unset, .unset, .unset, .unset, .unset, .unset, .unset] [(.long (q1 &&& (1152921504606846975 : Int64)))])) (fun t9 k9 => XS.land X0.here hx rfl (hb hby at_12) rfl k9) ?_
    refine own_st (T' := T0) (g' := (mkF m 15 #[.val (.long q1), .second, .val (.int p2), .val (.int (p2 &&& (3 : Int32))), .val (.long (q1 &&& (1152921504606846975 : Int64))), .second, .unset, .unset, .unset, .unset, .unset, .unset, .unset, .unset] [])) (fun t9 k9 => XS.lstore X0.here hx rfl (hb hby at_13) rfl (l' := #[.val (.long q1), .second, .val (.int p2), .val (.int (p2 &&& (3 : Int32))), .val (.long (q1 &&& (1152921504606846975 : Int64))), .second, .unset, .unset, .unset, .unset, .unset, .unset, .unset, .unset]) rfl k9) ?_
    refine own_st (T' := T0) (g' := (mkF m 59 #[.val (.long q1), .second, .val (.int p2), .val (.int (p2 &&& (3 : Int32))), .val (.long (q1 &&& (1152921504606846975 : Int64))), .second, .unset, .unset, .unset, .unset, .unset, .unset, .unset, .unset] [])) (fun t9 k9 => XS.goto X0.here hx rfl (pc0 := 15) (pc' := 59) rfl (hb hby at_15) (by decide) (by decide) k9) ?_
    have hm := c_maskL q1 (1152921504606846975 : Int64) 60 (by decide) (by decide)
    exact j59 _ (by omega) (by omega)
  · refine own_st (T' := T0) (g' := (mkF m 18 #[.val (.long q1), .second, .val (.int p2), .val (.int (p2 &&& (3 : Int32))), .unset, .unset, .unset, .unset, .unset, .unset, .unset, .unset, .unset, .unset] [])) (fun t9 k9 => XS.ifYes X0.here hx rfl (pc0 := 5) (pc' := 18) rfl (hb hby at_5) rfl ((if0 _ _).trans (feq hk0).2) (by decide) (by decide) k9) ?_
    refine own_st (T' := T0) (g' := (mkF m 19 #[.val (.long q1), .second, .val (.int p2), .val (.int (p2 &&& (3 : Int32))), .unset, .unset, .unset, .unset, .unset, .unset, .unset, .unset, .unset, .unset] [(.int (p2 &&& (3 : Int32)))])) (fun t9 k9 => XS.iloadN X0.here hx rfl (hb hby at_18) rfl k9) ?_
    refine own_st (T' := T0) (g' := (mkF m 20 #[.val (.long q1), .second, .val (.int p2), .val (.int (p2 &&& (3 : Int32))), .unset, .unset, .unset, .unset, .unset, .unset, .unset, .unset, .unset, .unset] [(.int (1 : Int32)), (.int (p2 &&& (3 : Int32)))])) (fun t9 k9 => XS.iconst X0.here hx rfl (hb hby at_19) k9) ?_
    by_cases hk1 : (p2 &&& (3 : Int32)) = (1 : Int32)
    · refine own_st (T' := T0) (g' := (mkF m 23 #[.val (.long q1), .second, .val (.int p2), .val (.int (p2 &&& (3 : Int32))), .unset, .unset, .unset, .unset, .unset, .unset, .unset, .unset, .unset, .unset] [])) (fun t9 k9 => XS.icmpNo X0.here hx rfl (hb hby at_20) rfl (teq hk1).2 k9) ?_
      refine own_st (T' := T0) (g' := (mkF m 24 #[.val (.long q1), .second, .val (.int p2), .val (.int (p2 &&& (3 : Int32))), .unset, .unset, .unset, .unset, .unset, .unset, .unset, .unset, .unset, .unset] [(.long q1)])) (fun t9 k9 => XS.lloadN X0.here hx rfl (hb hby at_23) rfl k9) ?_
      refine own_st (T' := T0) (g' := (mkF m 27 #[.val (.long q1), .second, .val (.int p2), .val (.int (p2 &&& (3 : Int32))), .unset, .unset, .unset, .unset, .unset, .unset, .unset, .unset, .unset, .unset] [(.long (1048575 : Int64)), (.long q1)])) (fun t9 k9 => X0.ldc2Long hx hown (mvT hZ (hw _ (List.mem_of_getElem? (i := 17) rfl))) (g := (mkF m 24 #[.val (.long q1), .second, .val (.int p2), .val (.int (p2 &&& (3 : Int32))), .unset, .unset, .unset, .unset, .unset, .unset, .unset, .unset, .unset, .unset] [(.long q1)])) rfl (hb hby at_24) t9 k9) ?_
      refine own_st (T' := T0) (g' := (mkF m 28 #[.val (.long q1), .second, .val (.int p2), .val (.int (p2 &&& (3 : Int32))), .unset, .unset, .unset, .unset, .unset, .unset, .unset, .unset, .unset, .unset] [(.long (q1 &&& (1048575 : Int64)))])) (fun t9 k9 => XS.land X0.here hx rfl (hb hby at_27) rfl k9) ?_
      refine own_st (T' := T0) (g' := (mkF m 30 #[.val (.long q1), .second, .val (.int p2), .val (.int (p2 &&& (3 : Int32))), .val (.long (q1 &&& (1048575 : Int64))), .second, .unset, .unset, .unset, .unset, .unset, .unset, .unset, .unset] [])) (fun t9 k9 => XS.lstore X0.here hx rfl (hb hby at_28) rfl (l' := #[.val (.long q1), .second, .val (.int p2), .val (.int (p2 &&& (3 : Int32))), .val (.long (q1 &&& (1048575 : Int64))), .second, .unset, .unset, .unset, .unset, .unset, .unset, .unset, .unset]) rfl k9) ?_
      refine own_st (T' := T0) (g' := (mkF m 59 #[.val (.long q1), .second, .val (.int p2), .val (.int (p2 &&& (3 : Int32))), .val (.long (q1 &&& (1048575 : Int64))), .second, .unset, .unset, .unset, .unset, .unset, .unset, .unset, .unset] [])) (fun t9 k9 => XS.goto X0.here hx rfl (pc0 := 30) (pc' := 59) rfl (hb hby at_30) (by decide) (by decide) k9) ?_
      have hm := c_maskL q1 (1048575 : Int64) 20 (by decide) (by decide)
      exact j59 _ (by omega) (by omega)
    · refine own_st (T' := T0) (g' := (mkF m 33 #[.val (.long q1), .second, .val (.int p2), .val (.int (p2 &&& (3 : Int32))), .unset, .unset, .unset, .unset, .unset, .unset, .unset, .unset, .unset, .unset] [])) (fun t9 k9 => XS.icmpYes X0.here hx rfl (pc0 := 20) (pc' := 33) rfl (hb hby at_20) rfl (feq hk1).2 (by decide) (by decide) k9) ?_
      refine own_st (T' := T0) (g' := (mkF m 34 #[.val (.long q1), .second, .val (.int p2), .val (.int (p2 &&& (3 : Int32))), .unset, .unset, .unset, .unset, .unset, .unset, .unset, .unset, .unset, .unset] [(.int (p2 &&& (3 : Int32)))])) (fun t9 k9 => XS.iloadN X0.here hx rfl (hb hby at_33) rfl k9) ?_
      refine own_st (T' := T0) (g' := (mkF m 35 #[.val (.long q1), .second, .val (.int p2), .val (.int (p2 &&& (3 : Int32))), .unset, .unset, .unset, .unset, .unset, .unset, .unset, .unset, .unset, .unset] [(.int (2 : Int32)), (.int (p2 &&& (3 : Int32)))])) (fun t9 k9 => XS.iconst X0.here hx rfl (hb hby at_34) k9) ?_
      by_cases hk2 : (p2 &&& (3 : Int32)) = (2 : Int32)
      · refine own_st (T' := T0) (g' := (mkF m 38 #[.val (.long q1), .second, .val (.int p2), .val (.int (p2 &&& (3 : Int32))), .unset, .unset, .unset, .unset, .unset, .unset, .unset, .unset, .unset, .unset] [])) (fun t9 k9 => XS.icmpNo X0.here hx rfl (hb hby at_35) rfl (teq hk2).2 k9) ?_
        refine own_st (T' := T0) (g' := (mkF m 41 #[.val (.long q1), .second, .val (.int p2), .val (.int (p2 &&& (3 : Int32))), .unset, .unset, .unset, .unset, .unset, .unset, .unset, .unset, .unset, .unset] [(.long (524272 : Int64))])) (fun t9 k9 => X0.ldc2Long hx hown (mvT hZ (hw _ (List.mem_of_getElem? (i := 0) rfl))) (g := (mkF m 38 #[.val (.long q1), .second, .val (.int p2), .val (.int (p2 &&& (3 : Int32))), .unset, .unset, .unset, .unset, .unset, .unset, .unset, .unset, .unset, .unset] [])) rfl (hb hby at_38) t9 k9) ?_
        refine own_st (T' := T0) (g' := (mkF m 42 #[.val (.long q1), .second, .val (.int p2), .val (.int (p2 &&& (3 : Int32))), .unset, .unset, .unset, .unset, .unset, .unset, .unset, .unset, .unset, .unset] [(.long q1), (.long (524272 : Int64))])) (fun t9 k9 => XS.lloadN X0.here hx rfl (hb hby at_41) rfl k9) ?_
        refine own_st (T' := T0) (g' := (mkF m 45 #[.val (.long q1), .second, .val (.int p2), .val (.int (p2 &&& (3 : Int32))), .unset, .unset, .unset, .unset, .unset, .unset, .unset, .unset, .unset, .unset] [(.long (32 : Int64)), (.long q1), (.long (524272 : Int64))])) (fun t9 k9 => X0.ldc2Long hx hown (mvT hZ (hw _ (List.mem_of_getElem? (i := 1) rfl))) (g := (mkF m 42 #[.val (.long q1), .second, .val (.int p2), .val (.int (p2 &&& (3 : Int32))), .unset, .unset, .unset, .unset, .unset, .unset, .unset, .unset, .unset, .unset] [(.long q1), (.long (524272 : Int64))])) rfl (hb hby at_42) t9 k9) ?_
        refine own_st (T' := T0) (g' := (mkF m 46 #[.val (.long q1), .second, .val (.int p2), .val (.int (p2 &&& (3 : Int32))), .unset, .unset, .unset, .unset, .unset, .unset, .unset, .unset, .unset, .unset] [(.long (q1 - (q1 / (32 : Int64)) * (32 : Int64))), (.long (524272 : Int64))])) (fun t9 k9 => XS.lrem X0.here hx rfl (hb hby at_45) rfl (by decide) k9) ?_
        refine own_st (T' := T0) (g' := (mkF m 47 #[.val (.long q1), .second, .val (.int p2), .val (.int (p2 &&& (3 : Int32))), .unset, .unset, .unset, .unset, .unset, .unset, .unset, .unset, .unset, .unset] [(.long ((524272 : Int64) + (q1 - (q1 / (32 : Int64)) * (32 : Int64))))])) (fun t9 k9 => XS.ladd X0.here hx rfl (hb hby at_46) rfl k9) ?_
        refine own_st (T' := T0) (g' := (mkF m 49 #[.val (.long q1), .second, .val (.int p2), .val (.int (p2 &&& (3 : Int32))), .val (.long ((524272 : Int64) + (q1 - (q1 / (32 : Int64)) * (32 : Int64)))), .second, .unset, .unset, .unset, .unset, .unset, .unset, .unset, .unset] [])) (fun t9 k9 => XS.lstore X0.here hx rfl (hb hby at_47) rfl (l' := #[.val (.long q1), .second, .val (.int p2), .val (.int (p2 &&& (3 : Int32))), .val (.long ((524272 : Int64) + (q1 - (q1 / (32 : Int64)) * (32 : Int64)))), .second, .unset, .unset, .unset, .unset, .unset, .unset, .unset, .unset]) rfl k9) ?_
        refine own_st (T' := T0) (g' := (mkF m 59 #[.val (.long q1), .second, .val (.int p2), .val (.int (p2 &&& (3 : Int32))), .val (.long ((524272 : Int64) + (q1 - (q1 / (32 : Int64)) * (32 : Int64)))), .second, .unset, .unset, .unset, .unset, .unset, .unset, .unset, .unset] [])) (fun t9 k9 => XS.goto X0.here hx rfl (pc0 := 49) (pc' := 59) rfl (hb hby at_49) (by decide) (by decide) k9) ?_
        have hm := c_lrem q1 (32 : Int64) 32 (by decide)
        have ha := c_ladd (524272 : Int64) (q1 - (q1 / (32 : Int64)) * (32 : Int64))
        have k5 : (524272 : Int64).toInt = 524272 := by decide
        rw [k5] at ha
        have hr := rng64 ((524272 : Int64) + (q1 - (q1 / (32 : Int64)) * (32 : Int64)))
        have hb : -32 < (q1 - (q1 / (32 : Int64)) * (32 : Int64)).toInt ∧ (q1 - (q1 / (32 : Int64)) * (32 : Int64)).toInt < 32 := by
          by_cases hx0 : 0 ≤ q1.toInt
          · rw [hm.1 hx0]; omega
          · rw [hm.2 (by omega)]; omega
        exact j59 _ (by omega) (by omega)
      · refine own_st (T' := T0) (g' := (mkF m 52 #[.val (.long q1), .second, .val (.int p2), .val (.int (p2 &&& (3 : Int32))), .unset, .unset, .unset, .unset, .unset, .unset, .unset, .unset, .unset, .unset] [])) (fun t9 k9 => XS.icmpYes X0.here hx rfl (pc0 := 35) (pc' := 52) rfl (hb hby at_35) rfl (feq hk2).2 (by decide) (by decide) k9) ?_
        refine own_st (T' := T0) (g' := (mkF m 53 #[.val (.long q1), .second, .val (.int p2), .val (.int (p2 &&& (3 : Int32))), .unset, .unset, .unset, .unset, .unset, .unset, .unset, .unset, .unset, .unset] [(.long q1)])) (fun t9 k9 => XS.lloadN X0.here hx rfl (hb hby at_52) rfl k9) ?_
        refine own_st (T' := T0) (g' := (mkF m 56 #[.val (.long q1), .second, .val (.int p2), .val (.int (p2 &&& (3 : Int32))), .unset, .unset, .unset, .unset, .unset, .unset, .unset, .unset, .unset, .unset] [(.long (63 : Int64)), (.long q1)])) (fun t9 k9 => X0.ldc2Long hx hown (mvT hZ (hw _ (List.mem_of_getElem? (i := 16) rfl))) (g := (mkF m 53 #[.val (.long q1), .second, .val (.int p2), .val (.int (p2 &&& (3 : Int32))), .unset, .unset, .unset, .unset, .unset, .unset, .unset, .unset, .unset, .unset] [(.long q1)])) rfl (hb hby at_53) t9 k9) ?_
        refine own_st (T' := T0) (g' := (mkF m 57 #[.val (.long q1), .second, .val (.int p2), .val (.int (p2 &&& (3 : Int32))), .unset, .unset, .unset, .unset, .unset, .unset, .unset, .unset, .unset, .unset] [(.long (q1 &&& (63 : Int64)))])) (fun t9 k9 => XS.land X0.here hx rfl (hb hby at_56) rfl k9) ?_
        refine own_st (T' := T0) (g' := (mkF m 59 #[.val (.long q1), .second, .val (.int p2), .val (.int (p2 &&& (3 : Int32))), .val (.long (q1 &&& (63 : Int64))), .second, .unset, .unset, .unset, .unset, .unset, .unset, .unset, .unset] [])) (fun t9 k9 => XS.lstore X0.here hx rfl (hb hby at_57) rfl (l' := #[.val (.long q1), .second, .val (.int p2), .val (.int (p2 &&& (3 : Int32))), .val (.long (q1 &&& (63 : Int64))), .second, .unset, .unset, .unset, .unset, .unset, .unset, .unset, .unset]) rfl k9) ?_
        have hm := c_maskL q1 (63 : Int64) 6 (by decide) (by decide)
        exact j59 _ (by omega) (by omega)
set_option maxRecDepth 65536 in
set_option maxHeartbeats 40000000 in
theorem comes_1 {Post : Tables → Env → Array Value → State → Outcome → State → Prop} (hpost : ∀ tb e args s v u, (limb_1_1.after args s (.returned v) u = true ∧ limb_1_2.after args s (.returned v) u = true ∧ True) → FrameEnd s (.returned v) u (Jvm.fieldLocs frame_1_writes args s ++ Jvm.arrayLocs frame_1_arrays args s ++ Jvm.staticLocs frame_1_statics s) 0 0 → Post tb e args s (.returned v) u) :
    ArmFor flags0 classFile x code maxLocals ret World_1 tables_1 room_1 Calls_1 rest_1 Pre_1 Post := by
  intro l hfl _ _ p e ha hc hk s m args below hf hA hF happ hP
  obtain ⟨hcalls, hrest, hpre⟩ := hP
  obtain ⟨-, -, -, hnamed, -, -, -, hat⟩ := (Spec.applies_iff hf).mp happ
  obtain ⟨hg, hn⟩ := and_e (Cond.before_iff.mp (show (Jvm.Cond.and given_1 narrow_1).before args s = true from hpre))
  obtain ⟨ga0, gb0⟩ := and_e hg
  obtain ⟨ga1, gb1⟩ := and_e gb0
  obtain ⟨w0, w1, rfl⟩ : ∃ w0 w1 : Value, args = #[w0, w1] := by
    have hs : args.size = 2 := by simpa [Cond.value, given_1] using ga0
    obtain ⟨L⟩ := args
    match L, hs with
    | [w0, w1], _ => exact ⟨w0, w1, rfl⟩
  have hw := fun d (hd : d ∈ tables_1) => atoms_spec (ws := Jvm.Cond.code x code maxLocals ret :: tables_1) hat d (List.mem_cons_of_mem _ hd)
  have hfit : Fit s := fun {y c} hc i hi => by
    obtain ⟨ha, rfl⟩ := Array.getElem?_eq_some_iff.mp hc
    have q := List.all_eq_true.mp ((Array.all_eq_true_iff_forall_mem.mp hF) _ (Array.getElem_mem ha)) i (List.mem_range.mpr hi)
    simpa [Array.getElem?_eq_getElem hi] using q
  obtain ⟨i0, ei0⟩ := isL_v ga1
  obtain rfl : w0 = (.long i0) := Option.some.inj ei0
  obtain ⟨i1, ei1⟩ := is_v gb1
  obtain rfl : w1 = (.int i1) := Option.some.inj ei1
  obtain ⟨n, o, h1, h2, h3, _, L, rfl, ⟨rfl, N⟩, hq⟩ := rm0 l s _ hw i0 i1 s.heap s.heap.size (Nat.le_refl _)  tables_1 p e ha hc hk s m _ below hf ((Spec.applies_iff_loose hf).mp happ).1 ⟨rfl, State.Warmed39.refl s, rfl⟩ trivial
  refine ⟨n, _, h1, h2, h3, hpost _ _ _ _ _ _ ⟨Cond.after_iff.mpr rfl, Cond.after_iff.mpr (eq_i res_at (Term.int_eval (1)) rfl), trivial⟩ ⟨hq.1, hq.2.1, (hq.2.2.sift fun y hy => Or.inr (N y hy)).mono (by decide) (by decide)⟩⟩
theorem main_1_1 : Claimed_1_1 := comes_1 fun _ _ _ _ _ _ h hF => ⟨h.1, hF⟩
theorem main_1_2 : Claimed_1_2 := comes_1 fun _ _ _ _ _ _ h hF => ⟨h.2.1, hF⟩
end Jvm.Pilot.@@N@@
namespace Jvm.Pilot.@@N@@
open Jvm Jvm.ClassFile Sem Op Lib Jvm.Free Jvm.Stand Jvm.Pilot.@@N@@.Jvm.D
/-! MADE BY PROGRAM (witnessworld.py) out of the Statement's table words and the real class files: 9 classes; the members and pool entries that the words name. The judged class is class 1, her method 1. -/
namespace start1
open Jvm.ClassFile
def u (s : String) : CpInfo := .utf8 (stringToUtf16 s)
/-- a pool by its gaps: so many unusable entries, then the entry; so many at the end -/
def gap : Nat → List CpInfo → List CpInfo
  | 0, r => r
  | n + 1, r => .unusable :: gap n r
def poolList (es : List (Nat × CpInfo)) (last : Nat) : List CpInfo := es.foldr (fun e r => gap e.1 (e.2 :: r)) (gap last [])
def pool (es : List (Nat × CpInfo)) (last : Nat) : Array CpInfo := ⟨poolList es last⟩
def fileOf (pool : Array CpInfo) (this : Nat) (attrs : Array Attribute := #[]) (ms : Array MethodInfo := #[]) (fl : Nat := 33) (sup : Nat := 0) (ifs : Array Nat := #[]) (fds : Array FieldInfo := #[]) : ClassFile where
  minorVersion := 0
  majorVersion := 65
  constantPool := pool
  accessFlags := fl
  thisClass := this
  superClass := sup
  interfaces := ifs
  fields := fds
  methods := ms
  attributes := attrs
def plain (name : String) (sup : Option ClassId) : Class where
  name := name
  kind := .ordinary
  loader := none
  accessFlags := 33
  super := sup
  interfaces := #[]
  cf := none
  fields := #[]
  methods := #[]
  instanceTypes := #[]
  staticTypes := #[]
  resolved := #[]
  callSites := []
  init := .initialized
  statics := none
  mirror := none

def pool0 : Array CpInfo := pool [(5, u "<init>"), (0, u "()V"), (1, .class_ 10), (1, u "java/lang/Object")] 113

def k0m0 : Method := { name := "<init>", desc := "()V", sig := { parameters := [], returnType := none }, accessFlags := 1, code := none }
/-- java/lang/Object -/
def k0 : Class := { plain "java/lang/Object" none with
  accessFlags := 33
  interfaces := #[]
  cf := some (fileOf pool0 8 #[] #[{ accessFlags := 1, nameIndex := 5, descriptorIndex := 6, attributes := #[] }] 33 0 #[] #[])
  fields := #[]
  methods := #[k0m0]
  instanceTypes := #[]
  staticTypes := #[]
  resolved := Array.replicate 124 none
  statics := none }

def pool1 : Array CpInfo := pool [(2, .class_ 4), (1, u "java/lang/Object"), (0, u "<init>"), (0, u "()V"), (0, .long 1152921504606846975), (1, .long 1048575), (1, .long 524272), (1, .long 32), (1, .long 63), (1, .methodref 18 19), (0, .class_ 20), (0, .nameAndType 21 22), (0, u "com/example/newsweave/newsweave/core/HeapSizes"), (0, u "ofArray"), (0, u "(J)J"), (0, .long 16), (1, .long 524288), (1, .long 8), (1, .long 2), (1, .class_ 32), (0, u "com/example/newsweave/newsweave/core/HeapSizesOfArrayPinLaw"), (2, u "law"), (0, u "(JI)Z")] 3

def k1m0 : Method := { name := "<init>", desc := "()V", sig := { parameters := [], returnType := none }, accessFlags := 2, code := none }
def k1c1 : Code := { maxStack := 6, maxLocals := 14, code := code, exceptionTable := #[], attributes := #[] }
def k1m1 : Method := { name := "law", desc := "(JI)Z", sig := { parameters := [.long, .int], returnType := some .boolean }, accessFlags := 9, code := some k1c1 }
/-- com/example/newsweave/newsweave/core/HeapSizesOfArrayPinLaw -/
def k1 : Class := { plain "com/example/newsweave/newsweave/core/HeapSizesOfArrayPinLaw" (some 0) with
  accessFlags := 49
  interfaces := #[]
  cf := some (fileOf pool1 31 #[] #[{ accessFlags := 2, nameIndex := 5, descriptorIndex := 6, attributes := #[] }, { accessFlags := 9, nameIndex := 35, descriptorIndex := 36, attributes := #[] }] 49 2 #[] #[])
  fields := #[]
  methods := #[k1m0, k1m1]
  instanceTypes := #[]
  staticTypes := #[]
  resolved := Array.replicate 40 none
  statics := none }

def pool2 : Array CpInfo := pool [(2, .class_ 4), (1, u "java/lang/Object"), (0, u "<init>"), (0, u "()V"), (0, .class_ 8), (0, u "com/example/newsweave/newsweave/core/HeapSizes"), (0, .long 16), (1, .long 8), (1, .long 18446744073709551608), (1, .long 524288), (1, .long 2), (15, u "ofArray"), (0, u "(J)J"), (0, u "REFERENCE_OCTETS"), (0, u "I"), (2, u "MAP_ENTRY_OCTETS"), (0, u "J"), (2, u "TEXT_OCTETS"), (0, u "ARRAY_HEADER_OCTETS"), (0, u "OBJECT_ALIGNMENT"), (0, u "SMALLEST_REGION_OCTETS")] 9

def k2m0 : Method := { name := "<init>", desc := "()V", sig := { parameters := [], returnType := none }, accessFlags := 2, code := none }
def k2c1 : Code := { maxStack := 4, maxLocals := 4, code := prog_38_method_2_code, exceptionTable := #[], attributes := #[] }
def k2m1 : Method := { name := "ofArray", desc := "(J)J", sig := { parameters := [.long], returnType := some .long }, accessFlags := 9, code := some k2c1 }
/-- com/example/newsweave/newsweave/core/HeapSizes -/
def k2 : Class := { plain "com/example/newsweave/newsweave/core/HeapSizes" (some 0) with
  accessFlags := 49
  interfaces := #[]
  cf := some (fileOf pool2 7 #[] #[{ accessFlags := 2, nameIndex := 5, descriptorIndex := 6, attributes := #[] }, { accessFlags := 9, nameIndex := 33, descriptorIndex := 34, attributes := #[] }] 49 2 #[] #[{ accessFlags := 25, nameIndex := 35, descriptorIndex := 36, attributes := #[] }, { accessFlags := 25, nameIndex := 39, descriptorIndex := 40, attributes := #[] }, { accessFlags := 26, nameIndex := 43, descriptorIndex := 40, attributes := #[] }, { accessFlags := 26, nameIndex := 44, descriptorIndex := 40, attributes := #[] }, { accessFlags := 26, nameIndex := 45, descriptorIndex := 40, attributes := #[] }, { accessFlags := 26, nameIndex := 46, descriptorIndex := 40, attributes := #[] }])
  fields := #[{ name := "REFERENCE_OCTETS", type := .int, accessFlags := 25, slot := 0, constantValue := 0 }, { name := "MAP_ENTRY_OCTETS", type := .long, accessFlags := 25, slot := 1, constantValue := 0 }, { name := "TEXT_OCTETS", type := .long, accessFlags := 26, slot := 2, constantValue := 0 }, { name := "ARRAY_HEADER_OCTETS", type := .long, accessFlags := 26, slot := 3, constantValue := 0 }, { name := "OBJECT_ALIGNMENT", type := .long, accessFlags := 26, slot := 4, constantValue := 0 }, { name := "SMALLEST_REGION_OCTETS", type := .long, accessFlags := 26, slot := 5, constantValue := 0 }]
  methods := #[k2m0, k2m1]
  instanceTypes := #[]
  staticTypes := #[.int, .long, .long, .long, .long, .long]
  resolved := Array.replicate 56 none
  statics := none }

def pool3 : Array CpInfo := pool [(1, u "java/lang/Cloneable"), (0, .class_ 1), (0, u "java/lang/Object"), (0, .class_ 3)] 3

/-- java/lang/Cloneable -/
def k3 : Class := { plain "java/lang/Cloneable" (some 0) with
  accessFlags := 1537
  interfaces := #[]
  cf := some (fileOf pool3 2 #[] #[] 1537 4 #[] #[])
  fields := #[]
  methods := #[]
  instanceTypes := #[]
  staticTypes := #[]
  resolved := Array.replicate 8 none
  statics := none }

def pool4 : Array CpInfo := pool [(1, u "java/io/Serializable"), (0, .class_ 1), (0, u "java/lang/Object"), (0, .class_ 3)] 3

/-- java/io/Serializable -/
def k4 : Class := { plain "java/io/Serializable" (some 0) with
  accessFlags := 1537
  interfaces := #[]
  cf := some (fileOf pool4 2 #[] #[] 1537 4 #[] #[])
  fields := #[]
  methods := #[]
  instanceTypes := #[]
  staticTypes := #[]
  resolved := Array.replicate 8 none
  statics := none }

/-- the primitive byte -/
def k5 : Class := { plain "byte" none with kind := .primitive 'B', accessFlags := 0x411 }
/-- [B -/
def k6 : Class := { plain "[B" (some 0) with kind := .array 5 .byte, interfaces := #[3, 4], accessFlags := 1041 }

/-- the primitive int -/
def k7 : Class := { plain "int" none with kind := .primitive 'I', accessFlags := 0x411 }
/-- [I -/
def k8 : Class := { plain "[I" (some 0) with kind := .array 7 .int, interfaces := #[3, 4], accessFlags := 1041 }

def heap : Heap := #[]
def classes : Array Class := #[k0, k1, k2, k3, k4, k5, k6, k7, k8]
def interned : List (Array UInt16 × Addr) := []
def slotsUsed : Nat := 0
def theMethod : MethodId := ⟨1, 1⟩
def args0 : Array Value := #[.long 5, .int 9]
def aboutOver (below : List Frame) : State where
  vm := { classes := classes, interned := interned.toArray }
  heap := heap
  slotsUsed := slotsUsed
  threads := #[{ frames := .invoking theMethod args0 :: below }]
def below0 : List Frame := [.native { method := ⟨0, 0⟩, args := #[] }]
def about1 : State := aboutOver below0
def p0 : Program := .bare "" "" ""
def e0 : Env := launch0.env 0 0 0
theorem w_frames : about1.frames = Frame.invoking theMethod args0 :: below0 := rfl
set_option maxRecDepth 65536 in
theorem w_args : argsFit about1.vm theMethod args0 = true := by decide +kernel
set_option maxRecDepth 65536 in
theorem w_heap : heapFits about1 = true := by decide +kernel
set_option maxRecDepth 65536 in
theorem w_runnable : about1.curStatus? = some .runnable := by decide +kernel
set_option maxRecDepth 65536 in
theorem w_alone : about1.alone = true := by decide +kernel
set_option maxRecDepth 65536 in
theorem w_named : about1.methodNamed? x = some theMethod := by decide +kernel
set_option maxRecDepth 65536 in
theorem w_hears : about1.hears theMethod below0 = true := by decide +kernel
set_option maxRecDepth 65536 in
theorem w_ripe : about1.ripe theMethod args0 below0 = true := by decide +kernel
theorem w_running : about1.status = .running := rfl
set_option maxRecDepth 65536 in
theorem w_room : about1.hasRoom e0.platform room_1 = true :=
  launch0.hasRoom_least _ room_1 (by decide +kernel) (by decide +kernel) (by decide +kernel) (by decide +kernel) (by decide +kernel) (by decide +kernel)
theorem allAtoms_all (ts : List Jvm.Cond) (a : Array Jvm.Value) (st : Jvm.State) : (allAtoms ts).before a st = ts.all (fun c => c.before a st) := by
  induction ts with
  | nil => rfl
  | cons c t ih =>
    show (Jvm.Cond.and c (allAtoms t)).before a st = _
    rw [Jvm.Cond.before_and, ih, List.all_cons]
def words1 : List Jvm.Cond := Jvm.Cond.code x code maxLocals ret :: tables_1
/-- a 'code' word, met by the world's own term for the bytes: nothing is compared byte by byte -/
theorem code_word {y : MethodName} {bytes : ByteArray} {mx : Nat} {rt : Option FieldType} {a : Array Value} {s : State} {m : MethodId} {meth : Method} {c : Code} (h1 : s.methodNamed? y = some m) (h2 : s.vm.method? m = some meth) (h3 : meth.code = some c) (h4 : c.code = bytes)
    (h5 : (c.maxLocals == mx && c.exceptionTable.isEmpty && decide (c.maxStack ≤ mostOperands) && decide (meth.sig.returnType = rt) && !meth.locks && decide (parseMethodDescriptor y.desc = some meth.sig)) = true) : (Jvm.Cond.code y bytes mx rt).before a s = true := by
  simp only [Bool.and_eq_true, beq_iff_eq, Bool.not_eq_true', decide_eq_true_eq] at h5
  obtain ⟨⟨⟨⟨⟨g1, g2⟩, g3⟩, g4⟩, g5⟩, g6⟩ := h5
  simp [Cond.before, Cond.holds, Cond.value, h1, h2, h3, h4, g1, g2, g3, g4, g5, g6]
def isCode : Jvm.Cond → Bool
  | .code _ _ _ _ => true
  | _ => false
theorem all_split {L : List Jvm.Cond} {P : Jvm.Cond → Bool} (h1 : L.all (fun c => isCode c || P c) = true) (h2 : ∀ c ∈ L.filter isCode, P c = true) : L.all P = true := by
  refine List.all_eq_true.mpr fun c hc => ?_
  have h := List.all_eq_true.mp h1 c hc
  rcases Bool.eq_false_or_eq_true (isCode c) with hi | hi
  · exact h2 c (List.mem_filter.mpr ⟨hc, hi⟩)
  · simpa [hi] using h
set_option maxRecDepth 65536 in
theorem w_c0 : (Jvm.Cond.code x code maxLocals ret).before args0 about1 = true := code_word (m := ⟨1, 1⟩) (meth := k1m1) (c := k1c1) (by decide +kernel) rfl rfl rfl (by decide +kernel)
set_option maxRecDepth 65536 in
theorem w_c1 : (Jvm.Cond.code ({ cls := "com/example/newsweave/newsweave/core/HeapSizes", name := "ofArray", desc := "(J)J" } : Jvm.MethodName) prog_38_method_2_code (4 : Nat) (Option.some Jvm.ClassFile.FieldType.long)).before args0 about1 = true := code_word (m := ⟨2, 1⟩) (meth := k2m1) (c := k2c1) (by decide +kernel) rfl rfl rfl (by decide +kernel)
def codes1 : List Jvm.Cond := [Jvm.Cond.code x code maxLocals ret, Jvm.Cond.code ({ cls := "com/example/newsweave/newsweave/core/HeapSizes", name := "ofArray", desc := "(J)J" } : Jvm.MethodName) prog_38_method_2_code (4 : Nat) (Option.some Jvm.ClassFile.FieldType.long)]
set_option maxRecDepth 65536 in
theorem codes_eq : words1.filter isCode = codes1 := rfl
theorem w_codes : ∀ c ∈ words1.filter isCode, c.before args0 about1 = true := by
  rw [codes_eq]
  intro c hc
  simp only [codes1, List.mem_cons, List.not_mem_nil, or_false] at hc
  rcases hc with rfl | rfl
  · exact w_c0
  · exact w_c1
set_option maxRecDepth 65536 in
theorem w_t1 : words1.all (fun c => isCode c || c.before args0 about1) = true := by decide +kernel
theorem w_tables : (allAtoms (Jvm.Cond.code x code maxLocals ret :: tables_1)).before args0 about1 = true := by
  rw [allAtoms_all]
  show words1.all (fun c => c.before args0 about1) = true
  refine all_split ?_ w_codes
  rw [w_t1]
set_option maxRecDepth 65536 in
theorem w_case : (Jvm.Cond.and given_1 narrow_1).before args0 about1 = true := by decide +kernel
theorem w_applies : (headSpec (Jvm.Cond.code x code maxLocals ret :: tables_1) room_1).applies x e0.platform about1 = true :=
  (Spec.applies_iff w_frames).mpr ⟨w_running, w_runnable, w_alone, w_named, w_hears, w_ripe, w_room, w_tables⟩
theorem atStart : AtStart classFile x code maxLocals ret World_1 tables_1 room_1 Calls_1 rest_1 Pre_1 launch0 p0 e0 about1 theMethod args0 below0 :=
  ⟨lists_1, trivial, launch0.admits_env _ _ _, launch0.least_env, fairChoices_fair.cas, fairChoices_fair.clock, w_frames, w_args, w_heap, w_applies, trivial, trivial, w_case⟩
end start1
theorem witness_1 : WitnessClaimed_1 := ⟨start1.p0, start1.e0, start1.about1, start1.theMethod, start1.args0, start1.below0, start1.atStart⟩
end Jvm.Pilot.@@N@@
