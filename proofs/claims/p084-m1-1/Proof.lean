import JvmDerived
import JvmDerived.Pilot.@@N@@Statement
import JvmDerived.Pilot.@@N@@Code
set_option linter.unusedVariables false
set_option linter.unusedSimpArgs false
namespace Jvm.RoadKit
open Sem ClassFile Op Lib Jvm.Stand Jvm.Free Jvm.LawKit
section New
variable {p : Program} {l : Launch} {e : Env} {R : Room} {s : State} {m : MethodId} {args : Array Value} {below : List Frame} {meth : Method} {c : Code} {T : State} {locs : List Loc} {cells slots : Nat}
theorem retI (X : Stand p l e R s m args below meth c T locs cells slots) (hx : p.tables.exec = Jvm.exec) {pc : Nat} {Ls : Array Slot} {z : Int32} {rest : List Value} (hret : meth.sig.returnType = some .int) (hd : decode c.code pc = .ok (.ireturn, 1)) {fs : List Frame}
    (hl : ∀ (f : JFrame) (acts : List Action), f.method = m → f.locked = none → f.entered = [] → (doReturn e (T.setTop f) acts (some (.int z))).1 = T.setFrames fs) : Steps p.tables e below (T.setTop (mkF m pc Ls (.int z :: rest))) (T.setFrames fs) := by
  have hm' : T.vm.method? m = some meth := X.method'
  have hn : narrow .int (.int z) = .int z := rfl
  show Steps p.tables e below (T.setTop { method := m, pc := pc, locals := Ls, stack := _ :: rest, locked := none }) _
  jvm_step X.here [X.here.top, hx, hd, hm', hret, hn]
  first | (intro acts; rw [hl _ acts rfl rfl rfl]) | rw [hl _ _ rfl rfl rfl]
  exact Steps.refl _
theorem own_retA (X : Stand p l e R s m args below meth c T locs cells slots) (hx : p.tables.exec = Jvm.exec) {pc : Nat} {Ls : Array Slot} {z : Value} {ty : FieldType} {rest : List Value} (hret : meth.sig.returnType = some ty) (hty : ty.isReference = true) (hz : z.isRef = true) (hd : decode c.code pc = .ok (.areturn, 1)) {fs : List Frame}
    (hl : ∀ (f : JFrame) (acts : List Action), f.method = m → f.locked = none → f.entered = [] → (doReturn e (T.setTop f) acts (some z)).1 = T.setFrames fs) : Steps p.tables e below (T.setTop (mkF m pc Ls (z :: rest))) (T.setFrames fs) := by
  have hm' : T.vm.method? m = some meth := X.method'
  show Steps p.tables e below (T.setTop { method := m, pc := pc, locals := Ls, stack := _ :: rest, locked := none }) _
  jvm_step X.here [X.here.top, hx, hd, hm', hret, hty, hz]
  first | (intro acts; rw [hl _ acts rfl rfl rfl]) | rw [hl _ _ rfl rfl rfl]
  exact Steps.refl _
theorem own_retD (X : Stand p l e R s m args below meth c T locs cells slots) (hx : p.tables.exec = Jvm.exec) {pc : Nat} {Ls : Array Slot} {z : UInt64} {rest : List Value} (hret : meth.sig.returnType = some .double) (hd : decode c.code pc = .ok (.dreturn, 1)) {fs : List Frame}
    (hl : ∀ (f : JFrame) (acts : List Action), f.method = m → f.locked = none → f.entered = [] → (doReturn e (T.setTop f) acts (some (.double z))).1 = T.setFrames fs) : Steps p.tables e below (T.setTop (mkF m pc Ls (.double z :: rest))) (T.setFrames fs) :=
  retOut X hx hret rfl (Or.inr (Or.inr (Or.inl ⟨rfl, rfl, z, rfl⟩))) hd hl
/-- where a body is to end: it runs, it has ended, it returned v, Q says what v and the heap are -/
def own_F (s : State) (below : List Frame) (Q : Option Value → Heap → List Loc → Prop) (C S : Nat) (t : State) (o : Outcome) : Prop := t.status = .running ∧ Ended t below o ∧ ∃ v L, o = .returned v ∧ Q v t.heap L ∧ FrameEnd s o t L C S
/-- the run from T, with the frame g on top, comes to such an end -/
def own_Go (p : Program) (e : Env) (below : List Frame) (F : State → Outcome → Prop) (T : State) (g : JFrame) : Prop := ∃ t o, Steps p.tables e below (T.setTop g) t ∧ F t o
theorem own_st {F : State → Outcome → Prop} {T T' : State} {g g' : JFrame} (h : ∀ t, Steps p.tables e below (T'.setTop g') t → Steps p.tables e below (T.setTop g) t) (k : own_Go p e below F T' g') : own_Go p e below F T g := by
  obtain ⟨t, o, h1, h2⟩ := k
  exact ⟨t, o, h t h1, h2⟩
theorem own_cast {F : State → Outcome → Prop} {T : State} {g g' : JFrame} (q : g = g') (k : own_Go p e below F T g') : own_Go p e below F T g := q ▸ k
theorem own_ret {F : State → Outcome → Prop} {Q : Option Value → Heap → List Loc → Prop} {C S : Nat} {g : JFrame} {v : Option Value} (hF : F = own_F s below Q C S) (X : Stand p l e R s m args below meth c T locs cells slots) (hv : meth.sig.returnType = none → v = none) (hlk : meth.locks = false)
    (hst : ∀ fs, (∀ (f : JFrame) (acts : List Action), f.method = m → f.locked = none → f.entered = [] → (doReturn e (T.setTop f) acts v).1 = T.setFrames fs) → Steps p.tables e below (T.setTop g) (T.setFrames fs)) (hQ : Q v T.heap locs) (hc : cells ≤ C) (hs : slots ≤ S) : own_Go p e below F T g := by
  subst hF
  obtain ⟨fs, hr, hrun, hended, hW, hsame⟩ := X.leave hv hlk
  exact ⟨T.setFrames fs, .returned v, hst fs hr, hrun, hended, v, locs, rfl, hQ, ⟨_, rfl⟩, hW, hsame.mono hc hs⟩
theorem own_some {ret : Option FieldType} {ty : FieldType} {v : Option Value} (hret : ret = some ty) : ret = none → v = none := fun h => by rw [hret] at h; cases h
/-- a body's contract: called with 'as' at the heap h0 it returns, and Q holds of what it returned, of the heap, of the places written -/
abbrev own_Met (l : Launch) (Z : State) (y : MethodName) (bytes : ByteArray) (maxL : Nat) (ret : Option FieldType) (rm : Room) (as : Array Value) (h0 : Heap) (Q : Option Value → Heap → List Loc → Prop) : Prop :=
  ∀ ws : List Jvm.Cond, MetFree l y (head1 (Jvm.Cond.code y bytes maxL ret :: ws) rm) (fun a U => a = as ∧ Z.Warmed39 U.vm ∧ U.heap = h0) (fun _ _ _ _ _ => True) (fun _ U o U' => ∃ v L, o = .returned v ∧ Q v U'.heap L ∧ FrameEnd U o U' L rm.cells rm.slots)
theorem own_body {Z : State} {y : MethodName} {bytes : ByteArray} {maxL : Nat} {ret : Option FieldType} {rm : Room} {as : Array Value} {h0 : Heap} {Q : Option Value → Heap → List Loc → Prop} (hpl : plainFor y = true)
    (body : ∀ (p : Program) (e : Env) (s : State) (m : MethodId) (below : List Frame) (meth : Method) (c : Code) (T : State), Z.Warmed39 s.vm → p.tables.exec = Jvm.exec → c.code = bytes → c.maxLocals = maxL → s.vm.findClass y.cls = some m.cls → meth.name = y.name → meth.sig.returnType = ret → meth.locks = false →
      Stand p l e rm s m as below meth c T [] 0 0 → T.heap = h0 → ∀ F : State → Outcome → Prop, F = own_F s below Q rm.cells rm.slots → own_Go p e below F T (entryFrame m as maxL)) : own_Met l Z y bytes maxL ret rm as h0 Q := by
  intro ws
  refine MetFree.of_bodySF hpl hisR ?_
  intro p e s m args below meth c s₁ Bd hml0 hP hK
  obtain ⟨rfl, hZ, hh⟩ := hP
  obtain ⟨t, o, h1, h2, h3, h4⟩ := body p e s m below meth c s₁ hZ Bd.exec Bd.bytes hml0 (findClass_of_methodNamed Bd.named) (name_of_methodNamed Bd.named Bd.method).1 Bd.returns (BodyLoose.notSynchronized Bd) (Stand.of_body Bd) (by rw [← hh, Bd.state]; rfl) _ rfl
  exact ⟨t, o, h1, h2, h3, h4⟩
theorem own_back {Z : State} {a0 : Array Value} {y : MethodName} {bytes : ByteArray} {maxL : Nat} {ret : Option FieldType} {rm : Room} {len W : Nat} {as' : Array Value} {h : Heap} {Q : Option Value → Heap → List Loc → Prop} (hM : own_Met l Z y bytes maxL ret rm as' h Q)
    (hZ : Z.Warmed39 s.vm) (wc : (Cond.code y bytes maxL ret).before a0 Z = true) (wz : (Cond.initialized y.cls).before a0 Z = true) (hf : rm.frames + 1 ≤ R.frames) (hl : W + (maxL + 11) + rm.locals ≤ R.locals) :
    Back l R p e below s args y len W (fun A a => a = as' ∧ A.U.heap = h ∧ A.cells + rm.cells ≤ R.cells ∧ A.slots + rm.slots ≤ R.slots)
      (fun A _ v B => ∃ L, Q v B.U.heap L ∧ B.locs = A.locs ++ L ∧ B.cells = A.cells + rm.cells ∧ B.slots = A.slots + rm.slots) := backOf (Q := Q) (rm := rm) (hM []) hZ wc wz hf hl
theorem own_selP {Z : State} {a0 : Array Value} {y : MethodName} {n : Nat} (hZ : Z.Warmed39 s.vm) (wi : (Cond.instantiable y.cls n).before a0 Z = true) (hpriv : s.PrivateAt y) (hinst : (Cond.instanceMethod y).before args s = true) (hy : y.cls ≠ "java/lang/invoke/MethodHandle" ∧ y.cls ≠ "java/lang/invoke/VarHandle") : (Cond.selects y.cls y y).before args s = true := by
  obtain ⟨c, k, h1, h2, h3, h4, -, -⟩ := Cond.instantiable_spec (mvT (args := args) hZ wi)
  exact selects_self_of_private h1 h2 (by cases hi : k.isInterface <;> simp [hi] at h4 ⊢) hpriv hinst hy
theorem own_dup2a (X : Stand p l e R s m args below meth c T locs cells slots) (hx : p.tables.exec = Jvm.exec) {pc : Nat} {Ls : Array Slot} {a b : Value} {rest : List Value} (hd : decode c.code pc = .ok (.dup2, 1)) (ha : a.category = 1) (hb : b.category = 1) {t : State}
    (k : Steps p.tables e below (T.setTop (mkF m (pc + 1) Ls (a :: b :: a :: b :: rest))) t) : Steps p.tables e below (T.setTop (mkF m pc Ls (a :: b :: rest))) t := by
  show Steps p.tables e below (T.setTop { method := m, pc := pc, locals := Ls, stack := a :: b :: rest, locked := none }) _
  jvm_step X.here [X.here.top, hx, hd, ha, hb]
  exact k
theorem own_dup2b (X : Stand p l e R s m args below meth c T locs cells slots) (hx : p.tables.exec = Jvm.exec) {pc : Nat} {Ls : Array Slot} {a : Value} {rest : List Value} (hd : decode c.code pc = .ok (.dup2, 1)) (ha : a.category = 2) {t : State}
    (k : Steps p.tables e below (T.setTop (mkF m (pc + 1) Ls (a :: a :: rest))) t) : Steps p.tables e below (T.setTop (mkF m pc Ls (a :: rest))) t := by
  show Steps p.tables e below (T.setTop { method := m, pc := pc, locals := Ls, stack := a :: rest, locked := none }) _
  jvm_step X.here [X.here.top, hx, hd, ha]
  exact k
theorem own_fresh {Z : State} {h : Heap} {b : Addr} (g : b = h.size) {n : Nat} (q : n ≤ h.size) : n ≤ b := g ▸ q
theorem own_ne {h : Heap} {a b : Addr} (g : b = h.size) (q : a < h.size) : a ≠ b := Nat.ne_of_lt (g ▸ q)
end New
end Jvm.RoadKit
namespace Jvm.RoadKit
open Sem ClassFile Op Lib Jvm.Stand Jvm.Free Jvm.LawKit
section Ref
variable {p : Program} {l : Launch} {e : Env} {R : Room} {s : State} {m : MethodId} {args : Array Value} {below : List Frame} {meth : Method} {c : Code} {T : State} {locs : List Loc} {cells slots : Nat} {Z : State} {a0 : Array Value}
theorem own_mvMN {own host : String} {index : Nat} {y : MethodName} (hZ : Z.Warmed39 s.vm) (w : (Cond.methodLinkNest own index y host).before a0 Z = true) : (Cond.methodLinkNest own index y host).before args s = true := (Cond.methodLinkNest_wide hZ w :)
/-- a constructor whose pool entry has been resolved already, by its contract -/
theorem own_specialRef (X : Stand p l e R s m args below meth c T locs cells slots) (hexec : p.tables.exec = Jvm.exec) (hZ : Z.Warmed39 s.vm) {own : String} {index : Nat} {y : MethodName} (hy1 : y.name = "<init>")
    (hown : s.vm.findClass own = some m.cls) (href : (Cond.methodRef own index y).before a0 Z = true) (hinst : (Cond.instanceMethod y).before args s = true)
    {bytes : ByteArray} {maxL : Nat} (hcode : (Cond.code y bytes maxL none).before args s = true)
    (hy : y.cls ≠ "java/lang/invoke/MethodHandle" ∧ y.cls ≠ "java/lang/invoke/VarHandle")
    {W : Nat} {Pre : Pt → Array Value → Prop} {Post : Pt → Array Value → Option Value → Pt → Prop} (hK : Back l R p e below s args y 3 W Pre Post)
    {g : JFrame} (hg : g.method = m) (hsize : g.locals.size = c.maxLocals) {s₀ : State} (hcome : Steps p.tables e below s₀ (T.setTop g)) {a : Addr} {argsL rest : List Value}
    (hlen : ∀ sig, parseMethodDescriptor y.desc = some sig → argsL.length = sig.parameters.length) (hstack : g.stack = argsL.reverse ++ .ref a :: rest) (hW : 2 * g.monitorRoom + (rest.map fun v => v.category).sum ≤ W)
    (hdg : decode c.code g.pc = .ok (.invokespecial index, 3)) (hpre : ∀ vm₁, s.WarmedH vm₁ → Pre ⟨T.setVm vm₁, locs, cells, slots⟩ (.ref a :: argsL).toArray) :
    ∃ (v : Option Value) (vm₁ : Vm) (B : Pt), s.WarmedH vm₁ ∧ Stand p l e R s m args below meth c B.U B.locs B.cells B.slots ∧ Post ⟨T.setVm vm₁, locs, cells, slots⟩ (.ref a :: argsL).toArray v B ∧
      Steps p.tables e below s₀ (B.U.setTop { g with pc := g.pc + 3, stack := v.toList ++ rest }) := by
  obtain ⟨obj, methO, hnO, hmO, hstO, habO⟩ := Cond.instanceMethod_spec hinst
  obtain ⟨methO', cO, hmO', hcO, hbO, hlO, -, hlockO, -, hsigO⟩ := Cond.code_spec hnO hcode
  cases hmO.symm.trans hmO'
  obtain ⟨kO, hkO, hnameO⟩ := className_of_methodNamed hnO
  obtain ⟨hnameMO, hdescO⟩ := name_of_methodNamed hnO hmO
  have hU : Z.Warmed39 T.vm := wtrans hZ X.warmed
  have hnZ : Z.methodNamed? y = some obj := by
    have q : (Z.setVm s.vm).methodNamed? y = some obj := hnO
    rw [State.methodNamed?_setVm hZ.alike] at q
    exact q
  have hR := Cond.methodRef_warmed39 hU hnZ hy href
  have hown' : (Z.setVm T.vm).vm.findClass own = some m.cls := by
    show T.vm.findClass own = some m.cls
    rw [X.warmed.alike.findClass]; exact hown
  obtain ⟨m', c', hm', hready, hfind, hnames⟩ := Cond.methodRef_named e hown' hR
  have hnU : (Z.setVm T.vm).methodNamed? y = some obj := by rw [State.methodNamed?_setVm hU.alike]; exact hnZ
  have hmm : m' = obj := Option.some.inj (hm'.symm.trans (State.methodFound?_of_named hnU hy))
  subst hmm
  have hc' : c' = m'.cls := Option.some.inj (hfind.symm.trans (findClass_of_methodNamed hnU))
  subst hc'
  obtain ⟨kO₂, hkO₂, heO₂⟩ := X.warmed.alike.2.2 _ _ hkO
  have hmO₂ : T.vm.method? m' = some methO := by rw [X.warmed.alike.method?]; exact hmO
  have hfound : lookupSpecial T.vm m'.cls "<init>" methO.desc = .method m' := by
    rw [X.warmed.alike.lookupSpecial, hdescO, ← hy1]; exact lookupSpecial_of_named hnO hmO hstO
  have hn : namesResolved T.vm g.method.cls index m'.cls := by rw [hg]; exact hnames
  have hrd : T.vm.methodReady g.method.cls index m' := by rw [hg]; exact hready
  have hstep : ∀ target, (∀ acts, Steps p.tables e below (doInvoke e (T.setTop { g with stack := rest }) acts m' (.ref a :: argsL).toArray).1 target) → Steps p.tables e below (T.setTop g) target := by
    intro target hrest
    subst hg
    jvm_step X.here [hexec, hdg, invokespecial.wp_init (e := e) (s := T) (k := kO₂) (meth := methO) (m := m') (a := a) (args := argsL) (rest := rest) (f := g) X.here.top hn hrd hkO₂ hmO₂ (by rw [hnameMO]; exact hy1) hstO habO hfound (hlen _ hsigO) hstack]
    exact hrest
  have X₁ := X.noted X.warmed
  obtain ⟨v, B, X', hpost, hsteps⟩ := hK m meth c ⟨T.setVm T.vm, locs, cells, slots⟩ { g with stack := rest } (.invokespecial index) m' (.ref a :: argsL).toArray X₁ hg hsize hdg hW (X₁.named hnO) (hpre T.vm X.warmed)
  exact ⟨v, T.vm, B, X.warmed, X', hpost, (hcome.trans (hstep _ fun acts => by rw [doInvoke_state]; exact Steps.refl _)).trans hsteps⟩
end Ref
end Jvm.RoadKit
namespace Jvm.Pilot.@@N@@
open Jvm Jvm.ClassFile Sem Op Lib Jvm.Free Jvm.Stand Jvm.LawKit Jvm.RoadKit Bundle Jvm.Pilot.@@N@@.Jvm.D

theorem own_gt : (0 : Int32) < (1 : Int32) := by decide

theorem pd_0 : parseMethodDescriptor "()Lcom/example/weighted_worlds/weightedworlds/Place;" = some ⟨[], some (.object "com/example/weighted_worlds/weightedworlds/Place")⟩ := by decide +kernel
theorem pd_1 : parseMethodDescriptor "(Lcom/example/weighted_worlds/weightedworlds/Place;IIII)V" = some ⟨[(.object "com/example/weighted_worlds/weightedworlds/Place"), .int, .int, .int, .int], none⟩ := by decide +kernel
theorem pd_2 : parseMethodDescriptor "()V" = some ⟨[], none⟩ := by decide +kernel
theorem pd_3 : parseMethodDescriptor "(Lcom/example/weighted_worlds/weightedworlds/Place;)I" = some ⟨[(.object "com/example/weighted_worlds/weightedworlds/Place")], some .int⟩ := by decide +kernel
theorem pd_4 : parseMethodDescriptor "(II)I" = some ⟨[.int, .int], some .int⟩ := by decide +kernel
theorem pd_5 : parseMethodDescriptor "()Lcom/example/weighted_worlds/weightedworlds/Place$Turn;" = some ⟨[], some (.object "com/example/weighted_worlds/weightedworlds/Place$Turn")⟩ := by decide +kernel
theorem pd_6 : parseMethodDescriptor "(Lcom/example/weighted_worlds/weightedworlds/Place;II)V" = some ⟨[(.object "com/example/weighted_worlds/weightedworlds/Place"), .int, .int], none⟩ := by decide +kernel
theorem pd_7 : parseMethodDescriptor "(Lcom/example/weighted_worlds/weightedworlds/Place;III)V" = some ⟨[(.object "com/example/weighted_worlds/weightedworlds/Place"), .int, .int, .int], none⟩ := by decide +kernel
theorem pd_8 : parseMethodDescriptor "(I)Lcom/example/weighted_worlds/weightedworlds/Place$Turn;" = some ⟨[.int], some (.object "com/example/weighted_worlds/weightedworlds/Place$Turn")⟩ := by decide +kernel
theorem pd_9 : parseMethodDescriptor "(Lcom/example/weighted_worlds/weightedworlds/Place;)Lcom/example/weighted_worlds/weightedworlds/Place;" = some ⟨[(.object "com/example/weighted_worlds/weightedworlds/Place")], some (.object "com/example/weighted_worlds/weightedworlds/Place")⟩ := by decide +kernel
theorem pd_10 : parseMethodDescriptor "(Lcom/example/weighted_worlds/weightedworlds/Place;Lcom/example/weighted_worlds/weightedworlds/Place;)Lcom/example/weighted_worlds/weightedworlds/Place;" = some ⟨[(.object "com/example/weighted_worlds/weightedworlds/Place"), (.object "com/example/weighted_worlds/weightedworlds/Place")], some (.object "com/example/weighted_worlds/weightedworlds/Place")⟩ := by decide +kernel
theorem d5_0 : decode jdk_33_method_40_code 0 = .ok (.iload_n 0, 1) := by decide +kernel
theorem d5_1 : decode jdk_33_method_40_code 1 = .ok (.iload_n 1, 1) := by decide +kernel
theorem d5_2 : decode jdk_33_method_40_code 2 = .ok (.if_icmp .ge 7, 3) := by decide +kernel
theorem d5_5 : decode jdk_33_method_40_code 5 = .ok (.iconst (-1), 1) := by decide +kernel
theorem d5_6 : decode jdk_33_method_40_code 6 = .ok (.goto 13, 3) := by decide +kernel
theorem d5_9 : decode jdk_33_method_40_code 9 = .ok (.iload_n 0, 1) := by decide +kernel
theorem d5_10 : decode jdk_33_method_40_code 10 = .ok (.iload_n 1, 1) := by decide +kernel
theorem d5_11 : decode jdk_33_method_40_code 11 = .ok (.if_icmp .ne 7, 3) := by decide +kernel
theorem d5_14 : decode jdk_33_method_40_code 14 = .ok (.iconst 0, 1) := by decide +kernel
theorem d5_15 : decode jdk_33_method_40_code 15 = .ok (.goto 4, 3) := by decide +kernel
theorem d5_18 : decode jdk_33_method_40_code 18 = .ok (.iconst 1, 1) := by decide +kernel
theorem d5_19 : decode jdk_33_method_40_code 19 = .ok (.ireturn, 1) := by decide +kernel
theorem pn_5 : plainFor (⟨"java/lang/Integer", "compare", "(II)I"⟩ : MethodName) = true := plainFor_of_name (by first | (simp [plainName, overriddenIn]; done) | decide +kernel)
set_option maxRecDepth 65536 in
set_option maxHeartbeats 40000000 in
theorem rm5 (l : Launch) (Z : State) (a0 : Array Value) (hw : ∀ d ∈ tables_1, d.before a0 Z = true) (p1 p2 : Int32) (h0 : Heap) (n0 : Nat) (Z0 : n0 ≤ h0.size)  :
    own_Met l Z (⟨"java/lang/Integer", "compare", "(II)I"⟩ : MethodName) jdk_33_method_40_code 2 (some .int) ({ frames := 0, cells := 0, slots := 0, locals := 0 } : Room) #[(.int p1), (.int p2)] h0 (fun v h L => ∃ z, v = some (.int z) ∧ Fr n0 L ∧ h = h0 ∧ ((p1 < p2 ∧ z = -1) ∨ (¬ p1 < p2 ∧ p1 = p2 ∧ z = 0) ∨ (¬ p1 < p2 ∧ ¬ p1 = p2 ∧ z = 1))) := by
  refine own_body pn_5 ?_
  intro p e s m below meth c T0 hZ hx hby hml hown hnm hret hlk X0 e0 F hF
  have N0 := Fr.nil n0
  have K0 := Keep.refl h0 []
  refine own_cast (g' := (mkF m 0 #[.val (.int p1), .val (.int p2)] [])) (by first | rfl | simp [entryFrame, mkF, argsToLocals, Value.category]) ?_
  refine own_st (T' := T0) (g' := (mkF m 1 #[.val (.int p1), .val (.int p2)] [(.int p1)])) (fun t9 k9 => XS.iloadN X0.here hx rfl (hb hby d5_0) rfl k9) ?_
  refine own_st (T' := T0) (g' := (mkF m 2 #[.val (.int p1), .val (.int p2)] [(.int p2), (.int p1)])) (fun t9 k9 => XS.iloadN X0.here hx rfl (hb hby d5_1) rfl k9) ?_
  by_cases h1 : p1 < p2
  · refine own_st (T' := T0) (g' := (mkF m 5 #[.val (.int p1), .val (.int p2)] [])) (fun t9 k9 => XS.icmpNo X0.here hx rfl (hb hby d5_2) rfl (tlt h1).2.1 k9) ?_
    refine own_st (T' := T0) (g' := (mkF m 6 #[.val (.int p1), .val (.int p2)] [(.int (-1 : Int32))])) (fun t9 k9 => XS.iconst X0.here hx rfl (hb hby d5_5) k9) ?_
    refine own_st (T' := T0) (g' := (mkF m 19 #[.val (.int p1), .val (.int p2)] [(.int (-1 : Int32))])) (fun t9 k9 => XS.goto X0.here hx rfl (pc0 := 6) (pc' := 19) rfl (hb hby d5_6) (by decide) (by decide) k9) ?_
    refine own_ret (v := some (.int (-1 : Int32))) hF X0 (own_some hret) hlk (fun fs hr => retI X0 hx hret (hb hby d5_19) hr) ?_ (by decide) (by decide)
    try rw [e0]
    exact ⟨_, rfl, N0, rfl, Or.inl ⟨h1, rfl⟩⟩
  · refine own_st (T' := T0) (g' := (mkF m 9 #[.val (.int p1), .val (.int p2)] [])) (fun t9 k9 => XS.icmpYes X0.here hx rfl (pc0 := 2) (pc' := 9) rfl (hb hby d5_2) rfl (flt h1).2.1 (by decide) (by decide) k9) ?_
    refine own_st (T' := T0) (g' := (mkF m 10 #[.val (.int p1), .val (.int p2)] [(.int p1)])) (fun t9 k9 => XS.iloadN X0.here hx rfl (hb hby d5_9) rfl k9) ?_
    refine own_st (T' := T0) (g' := (mkF m 11 #[.val (.int p1), .val (.int p2)] [(.int p2), (.int p1)])) (fun t9 k9 => XS.iloadN X0.here hx rfl (hb hby d5_10) rfl k9) ?_
    by_cases h2 : p1 = p2
    · refine own_st (T' := T0) (g' := (mkF m 14 #[.val (.int p1), .val (.int p2)] [])) (fun t9 k9 => XS.icmpNo X0.here hx rfl (hb hby d5_11) rfl (teq h2).2 k9) ?_
      refine own_st (T' := T0) (g' := (mkF m 15 #[.val (.int p1), .val (.int p2)] [(.int (0 : Int32))])) (fun t9 k9 => XS.iconst X0.here hx rfl (hb hby d5_14) k9) ?_
      refine own_st (T' := T0) (g' := (mkF m 19 #[.val (.int p1), .val (.int p2)] [(.int (0 : Int32))])) (fun t9 k9 => XS.goto X0.here hx rfl (pc0 := 15) (pc' := 19) rfl (hb hby d5_15) (by decide) (by decide) k9) ?_
      refine own_ret (v := some (.int (0 : Int32))) hF X0 (own_some hret) hlk (fun fs hr => retI X0 hx hret (hb hby d5_19) hr) ?_ (by decide) (by decide)
      try rw [e0]
      exact ⟨_, rfl, N0, rfl, Or.inr (Or.inl ⟨h1, h2, rfl⟩)⟩
    · refine own_st (T' := T0) (g' := (mkF m 18 #[.val (.int p1), .val (.int p2)] [])) (fun t9 k9 => XS.icmpYes X0.here hx rfl (pc0 := 11) (pc' := 18) rfl (hb hby d5_11) rfl (feq h2).2 (by decide) (by decide) k9) ?_
      refine own_st (T' := T0) (g' := (mkF m 19 #[.val (.int p1), .val (.int p2)] [(.int (1 : Int32))])) (fun t9 k9 => XS.iconst X0.here hx rfl (hb hby d5_18) k9) ?_
      refine own_ret (v := some (.int (1 : Int32))) hF X0 (own_some hret) hlk (fun fs hr => retI X0 hx hret (hb hby d5_19) hr) ?_ (by decide) (by decide)
      try rw [e0]
      exact ⟨_, rfl, N0, rfl, Or.inr (Or.inr ⟨h1, h2, rfl⟩)⟩
theorem d4_0 : decode prog_15_method_7_code 0 = .ok (.aload_n 0, 1) := by decide +kernel
theorem d4_1 : decode prog_15_method_7_code 1 = .ok (.getfield 13, 3) := by decide +kernel
theorem d4_4 : decode prog_15_method_7_code 4 = .ok (.aload_n 1, 1) := by decide +kernel
theorem d4_5 : decode prog_15_method_7_code 5 = .ok (.getfield 13, 3) := by decide +kernel
theorem d4_8 : decode prog_15_method_7_code 8 = .ok (.if_icmp .eq 15, 3) := by decide +kernel
theorem d4_11 : decode prog_15_method_7_code 11 = .ok (.aload_n 0, 1) := by decide +kernel
theorem d4_12 : decode prog_15_method_7_code 12 = .ok (.getfield 13, 3) := by decide +kernel
theorem d4_15 : decode prog_15_method_7_code 15 = .ok (.aload_n 1, 1) := by decide +kernel
theorem d4_16 : decode prog_15_method_7_code 16 = .ok (.getfield 13, 3) := by decide +kernel
theorem d4_19 : decode prog_15_method_7_code 19 = .ok (.invokestatic 51, 3) := by decide +kernel
theorem d4_22 : decode prog_15_method_7_code 22 = .ok (.ireturn, 1) := by decide +kernel
theorem d4_23 : decode prog_15_method_7_code 23 = .ok (.aload_n 0, 1) := by decide +kernel
theorem d4_24 : decode prog_15_method_7_code 24 = .ok (.astore_n 2, 1) := by decide +kernel
theorem d4_25 : decode prog_15_method_7_code 25 = .ok (.aload_n 1, 1) := by decide +kernel
theorem d4_26 : decode prog_15_method_7_code 26 = .ok (.astore_n 3, 1) := by decide +kernel
theorem d4_27 : decode prog_15_method_7_code 27 = .ok (.aload_n 2, 1) := by decide +kernel
theorem d4_28 : decode prog_15_method_7_code 28 = .ok (.getfield 7, 3) := by decide +kernel
theorem d4_31 : decode prog_15_method_7_code 31 = .ok (.aload_n 3, 1) := by decide +kernel
theorem d4_32 : decode prog_15_method_7_code 32 = .ok (.getfield 7, 3) := by decide +kernel
theorem d4_35 : decode prog_15_method_7_code 35 = .ok (.if_acmp .eq 58, 3) := by decide +kernel
theorem d4_38 : decode prog_15_method_7_code 38 = .ok (.aload_n 2, 1) := by decide +kernel
theorem d4_39 : decode prog_15_method_7_code 39 = .ok (.getfield 21, 3) := by decide +kernel
theorem d4_42 : decode prog_15_method_7_code 42 = .ok (.aload_n 3, 1) := by decide +kernel
theorem d4_43 : decode prog_15_method_7_code 43 = .ok (.getfield 21, 3) := by decide +kernel
theorem d4_46 : decode prog_15_method_7_code 46 = .ok (.if_acmp .eq 7, 3) := by decide +kernel
theorem d4_49 : decode prog_15_method_7_code 49 = .ok (.iconst 1, 1) := by decide +kernel
theorem d4_50 : decode prog_15_method_7_code 50 = .ok (.goto 4, 3) := by decide +kernel
theorem d4_53 : decode prog_15_method_7_code 53 = .ok (.iconst 0, 1) := by decide +kernel
theorem d4_54 : decode prog_15_method_7_code 54 = .ok (.istore 4, 2) := by decide +kernel
theorem d4_56 : decode prog_15_method_7_code 56 = .ok (.iload 4, 2) := by decide +kernel
theorem d4_58 : decode prog_15_method_7_code 58 = .ok (.ifCond .eq 10, 3) := by decide +kernel
theorem d4_61 : decode prog_15_method_7_code 61 = .ok (.aload_n 2, 1) := by decide +kernel
theorem d4_62 : decode prog_15_method_7_code 62 = .ok (.getfield 21, 3) := by decide +kernel
theorem d4_65 : decode prog_15_method_7_code 65 = .ok (.goto 7, 3) := by decide +kernel
theorem d4_68 : decode prog_15_method_7_code 68 = .ok (.aload_n 2, 1) := by decide +kernel
theorem d4_69 : decode prog_15_method_7_code 69 = .ok (.getfield 7, 3) := by decide +kernel
theorem d4_72 : decode prog_15_method_7_code 72 = .ok (.astore_n 2, 1) := by decide +kernel
theorem d4_73 : decode prog_15_method_7_code 73 = .ok (.iload 4, 2) := by decide +kernel
theorem d4_75 : decode prog_15_method_7_code 75 = .ok (.ifCond .eq 10, 3) := by decide +kernel
theorem d4_78 : decode prog_15_method_7_code 78 = .ok (.aload_n 3, 1) := by decide +kernel
theorem d4_79 : decode prog_15_method_7_code 79 = .ok (.getfield 21, 3) := by decide +kernel
theorem d4_82 : decode prog_15_method_7_code 82 = .ok (.goto 7, 3) := by decide +kernel
theorem d4_85 : decode prog_15_method_7_code 85 = .ok (.aload_n 3, 1) := by decide +kernel
theorem d4_86 : decode prog_15_method_7_code 86 = .ok (.getfield 7, 3) := by decide +kernel
theorem d4_89 : decode prog_15_method_7_code 89 = .ok (.astore_n 3, 1) := by decide +kernel
theorem d4_90 : decode prog_15_method_7_code 90 = .ok (.goto (-63), 3) := by decide +kernel
theorem d4_93 : decode prog_15_method_7_code 93 = .ok (.aload_n 2, 1) := by decide +kernel
theorem d4_94 : decode prog_15_method_7_code 94 = .ok (.getfield 24, 3) := by decide +kernel
theorem d4_97 : decode prog_15_method_7_code 97 = .ok (.aload_n 3, 1) := by decide +kernel
theorem d4_98 : decode prog_15_method_7_code 98 = .ok (.getfield 24, 3) := by decide +kernel
theorem d4_101 : decode prog_15_method_7_code 101 = .ok (.if_icmp .eq 15, 3) := by decide +kernel
theorem d4_104 : decode prog_15_method_7_code 104 = .ok (.aload_n 2, 1) := by decide +kernel
theorem d4_105 : decode prog_15_method_7_code 105 = .ok (.getfield 24, 3) := by decide +kernel
theorem d4_108 : decode prog_15_method_7_code 108 = .ok (.aload_n 3, 1) := by decide +kernel
theorem d4_109 : decode prog_15_method_7_code 109 = .ok (.getfield 24, 3) := by decide +kernel
theorem d4_112 : decode prog_15_method_7_code 112 = .ok (.invokestatic 51, 3) := by decide +kernel
theorem d4_115 : decode prog_15_method_7_code 115 = .ok (.ireturn, 1) := by decide +kernel
theorem d4_116 : decode prog_15_method_7_code 116 = .ok (.aload_n 2, 1) := by decide +kernel
theorem d4_117 : decode prog_15_method_7_code 117 = .ok (.getfield 27, 3) := by decide +kernel
theorem d4_120 : decode prog_15_method_7_code 120 = .ok (.aload_n 3, 1) := by decide +kernel
theorem d4_121 : decode prog_15_method_7_code 121 = .ok (.getfield 27, 3) := by decide +kernel
theorem d4_124 : decode prog_15_method_7_code 124 = .ok (.if_icmp .eq 15, 3) := by decide +kernel
theorem d4_127 : decode prog_15_method_7_code 127 = .ok (.aload_n 2, 1) := by decide +kernel
theorem d4_128 : decode prog_15_method_7_code 128 = .ok (.getfield 27, 3) := by decide +kernel
theorem d4_131 : decode prog_15_method_7_code 131 = .ok (.aload_n 3, 1) := by decide +kernel
theorem d4_132 : decode prog_15_method_7_code 132 = .ok (.getfield 27, 3) := by decide +kernel
theorem d4_135 : decode prog_15_method_7_code 135 = .ok (.invokestatic 51, 3) := by decide +kernel
theorem d4_138 : decode prog_15_method_7_code 138 = .ok (.ireturn, 1) := by decide +kernel
theorem d4_139 : decode prog_15_method_7_code 139 = .ok (.aload_n 2, 1) := by decide +kernel
theorem d4_140 : decode prog_15_method_7_code 140 = .ok (.getfield 30, 3) := by decide +kernel
theorem d4_143 : decode prog_15_method_7_code 143 = .ok (.aload_n 3, 1) := by decide +kernel
theorem d4_144 : decode prog_15_method_7_code 144 = .ok (.getfield 30, 3) := by decide +kernel
theorem d4_147 : decode prog_15_method_7_code 147 = .ok (.if_icmp .eq 15, 3) := by decide +kernel
theorem d4_150 : decode prog_15_method_7_code 150 = .ok (.aload_n 2, 1) := by decide +kernel
theorem d4_151 : decode prog_15_method_7_code 151 = .ok (.getfield 30, 3) := by decide +kernel
theorem d4_154 : decode prog_15_method_7_code 154 = .ok (.aload_n 3, 1) := by decide +kernel
theorem d4_155 : decode prog_15_method_7_code 155 = .ok (.getfield 30, 3) := by decide +kernel
theorem d4_158 : decode prog_15_method_7_code 158 = .ok (.invokestatic 51, 3) := by decide +kernel
theorem d4_161 : decode prog_15_method_7_code 161 = .ok (.ireturn, 1) := by decide +kernel
theorem d4_162 : decode prog_15_method_7_code 162 = .ok (.aload_n 2, 1) := by decide +kernel
theorem d4_163 : decode prog_15_method_7_code 163 = .ok (.getfield 33, 3) := by decide +kernel
theorem d4_166 : decode prog_15_method_7_code 166 = .ok (.aload_n 3, 1) := by decide +kernel
theorem d4_167 : decode prog_15_method_7_code 167 = .ok (.getfield 33, 3) := by decide +kernel
theorem d4_170 : decode prog_15_method_7_code 170 = .ok (.invokestatic 51, 3) := by decide +kernel
theorem d4_173 : decode prog_15_method_7_code 173 = .ok (.ireturn, 1) := by decide +kernel
theorem pn_4 : plainFor (⟨"com/example/weighted_worlds/weightedworlds/Place", "compareTo", "(Lcom/example/weighted_worlds/weightedworlds/Place;)I"⟩ : MethodName) = true := plainFor_of_name (by first | (simp [plainName, overriddenIn]; done) | decide +kernel)
set_option maxRecDepth 65536 in
set_option maxHeartbeats 40000000 in
theorem rmCd (l : Launch) (Z : State) (a0 : Array Value) (hw : ∀ d ∈ tables_1, d.before a0 Z = true) (a1 a2 : Addr) (d1 d2 : Int32) (h0 : Heap) (n0 : Nat) (Z0 : n0 ≤ h0.size) (F1 : Fld Z h0 a1 "com/example/weighted_worlds/weightedworlds/Place" "depth" "I" (.int d1)) (F2 : Fld Z h0 a2 "com/example/weighted_worlds/weightedworlds/Place" "depth" "I" (.int d2)) (hd : ¬ d1 = d2) :
    own_Met l Z (⟨"com/example/weighted_worlds/weightedworlds/Place", "compareTo", "(Lcom/example/weighted_worlds/weightedworlds/Place;)I"⟩ : MethodName) prog_15_method_7_code 5 (some .int) ({ frames := 1, cells := 0, slots := 0, locals := 13 } : Room) #[(.ref a1), (.ref a2)] h0 (fun v h L => ∃ z, v = some (.int z) ∧ Fr n0 L ∧ h = h0 ∧ ((d1 < d2 ∧ z = -1) ∨ (¬ d1 < d2 ∧ z = 1))) := by
  refine own_body pn_4 ?_
  intro p e s m below meth c T0 hZ hx hby hml hown hnm hret hlk X0 e0 F hF
  have N0 := Fr.nil n0
  have K0 := Keep.refl h0 []
  refine own_cast (g' := (mkF m 0 #[.val (.ref a1), .val (.ref a2), .unset, .unset, .unset] [])) (by first | rfl | simp [entryFrame, mkF, argsToLocals, Value.category]) ?_
  refine own_st (T' := T0) (g' := (mkF m 1 #[.val (.ref a1), .val (.ref a2), .unset, .unset, .unset] [(.ref a1)])) (fun t9 k9 => XS.aloadN X0.here hx rfl (hb hby d4_0) rfl rfl k9) ?_
  obtain ⟨T1, X1, e1, st1⟩ := getF X0 hx hZ hown (host := "") (Or.inl (hw _ (List.mem_of_getElem? (i := 14) rfl))) Via.refl e0 F1 (g := (mkF m 1 #[.val (.ref a1), .val (.ref a2), .unset, .unset, .unset] [(.ref a1)])) rfl rfl (hb hby d4_1)
  refine own_st (T' := T1) (g' := (mkF m 4 #[.val (.ref a1), .val (.ref a2), .unset, .unset, .unset] [(.int d1)])) (fun t9 k9 => st1 t9 k9) ?_
  refine own_st (T' := T1) (g' := (mkF m 5 #[.val (.ref a1), .val (.ref a2), .unset, .unset, .unset] [(.ref a2), (.int d1)])) (fun t9 k9 => XS.aloadN X1.here hx rfl (hb hby d4_4) rfl rfl k9) ?_
  obtain ⟨T2, X2, e2, st2⟩ := getF X1 hx hZ hown (host := "") (Or.inl (hw _ (List.mem_of_getElem? (i := 14) rfl))) Via.refl e1 F2 (g := (mkF m 5 #[.val (.ref a1), .val (.ref a2), .unset, .unset, .unset] [(.ref a2), (.int d1)])) rfl rfl (hb hby d4_5)
  refine own_st (T' := T2) (g' := (mkF m 8 #[.val (.ref a1), .val (.ref a2), .unset, .unset, .unset] [(.int d2), (.int d1)])) (fun t9 k9 => st2 t9 k9) ?_
  refine own_st (T' := T2) (g' := (mkF m 11 #[.val (.ref a1), .val (.ref a2), .unset, .unset, .unset] [])) (fun t9 k9 => XS.icmpNo X2.here hx rfl (hb hby d4_8) rfl (feq hd).1 k9) ?_
  refine own_st (T' := T2) (g' := (mkF m 12 #[.val (.ref a1), .val (.ref a2), .unset, .unset, .unset] [(.ref a1)])) (fun t9 k9 => XS.aloadN X2.here hx rfl (hb hby d4_11) rfl rfl k9) ?_
  obtain ⟨T3, X3, e3, st3⟩ := getF X2 hx hZ hown (host := "") (Or.inl (hw _ (List.mem_of_getElem? (i := 14) rfl))) Via.refl e2 F1 (g := (mkF m 12 #[.val (.ref a1), .val (.ref a2), .unset, .unset, .unset] [(.ref a1)])) rfl rfl (hb hby d4_12)
  refine own_st (T' := T3) (g' := (mkF m 15 #[.val (.ref a1), .val (.ref a2), .unset, .unset, .unset] [(.int d1)])) (fun t9 k9 => st3 t9 k9) ?_
  refine own_st (T' := T3) (g' := (mkF m 16 #[.val (.ref a1), .val (.ref a2), .unset, .unset, .unset] [(.ref a2), (.int d1)])) (fun t9 k9 => XS.aloadN X3.here hx rfl (hb hby d4_15) rfl rfl k9) ?_
  obtain ⟨T4, X4, e4, st4⟩ := getF X3 hx hZ hown (host := "") (Or.inl (hw _ (List.mem_of_getElem? (i := 14) rfl))) Via.refl e3 F2 (g := (mkF m 16 #[.val (.ref a1), .val (.ref a2), .unset, .unset, .unset] [(.ref a2), (.int d1)])) rfl rfl (hb hby d4_16)
  refine own_st (T' := T4) (g' := (mkF m 19 #[.val (.ref a1), .val (.ref a2), .unset, .unset, .unset] [(.int d2), (.int d1)])) (fun t9 k9 => st4 t9 k9) ?_
  obtain ⟨_, _, ⟨T5, L5, k5, n5⟩, -, X5, ⟨Lc5, hQ5, l5, y5, z5⟩, st5⟩ := Jvm.LawKit.callS X4 hx (y := (⟨"java/lang/Integer", "compare", "(II)I"⟩ : MethodName)) hown (mvT hZ (hw _ (List.mem_of_getElem? (i := 31) rfl))) (mvT hZ (hw _ (List.mem_of_getElem? (i := 32) rfl))) (mvT hZ (hw _ (List.mem_of_getElem? (i := 33) rfl))) (mvT hZ (hw _ (List.mem_of_getElem? (i := 34) rfl))) (by decide) (own_back (W := 0) (rm5 l Z a0 hw d1 d2 h0 n0 Z0) hZ (hw _ (List.mem_of_getElem? (i := 34) rfl)) (hw _ (List.mem_of_getElem? (i := 33) rfl)) (by decide) (by decide)) (g := (mkF m 19 #[.val (.ref a1), .val (.ref a2), .unset, .unset, .unset] [(.int d2), (.int d1)])) rfl (by rw [hml]; rfl) (argsL := [(.int d1), (.int d2)]) (rest := []) (lenOf pd_4 rfl) rfl (by show 2 * 0 + _ ≤ _; exact Nat.le_of_eq rfl) (hb hby d4_19) (fun _ _ => ⟨rfl, e4, (Nat.le_of_ble_eq_true rfl), (Nat.le_of_ble_eq_true rfl)⟩)
  dsimp only [Pt.U, Pt.locs, Pt.cells, Pt.slots] at X5 l5 y5 z5 st5 hQ5
  subst l5 y5 z5
  obtain ⟨z5, rfl, Nq5, he5, hz5⟩ := hQ5
  have N5 := Fr.app N0 Nq5
  have e5 : T5.heap = h0 := he5
  refine own_st (T' := T5) (g' := (mkF m 22 #[.val (.ref a1), .val (.ref a2), .unset, .unset, .unset] [(.int z5)])) (fun t9 k9 => st5 t9 k9) ?_
  refine own_ret (v := some (.int z5)) hF X5 (own_some hret) hlk (fun fs hr => retI X5 hx hret (hb hby d4_22) hr) ?_ (by decide) (by decide)
  try rw [e5]
  exact ⟨_, rfl, N5, rfl, hz5.elim Or.inl (fun q => q.elim (fun q => absurd q.2.1 hd) (fun q => Or.inr ⟨q.1, q.2.2⟩))⟩
set_option maxRecDepth 65536 in
set_option maxHeartbeats 40000000 in
theorem rmCr (l : Launch) (Z : State) (a0 : Array Value) (hw : ∀ d ∈ tables_1, d.before a0 Z = true) (a1 a2 : Addr) (h0 : Heap) (n0 : Nat) (Z0 : n0 ≤ h0.size) (G_at : Fld Z h0 a1 "com/example/weighted_worlds/weightedworlds/Place" "at" "Lcom/example/weighted_worlds/weightedworlds/Place;" .null) (G_depth : Fld Z h0 a1 "com/example/weighted_worlds/weightedworlds/Place" "depth" "I" (.int (0 : Int32))) (G_rank : Fld Z h0 a1 "com/example/weighted_worlds/weightedworlds/Place" "rank" "I" (.int (0 : Int32))) (G_turn : Fld Z h0 a1 "com/example/weighted_worlds/weightedworlds/Place" "turn" "I" (.int (0 : Int32))) (G_conjunct : Fld Z h0 a1 "com/example/weighted_worlds/weightedworlds/Place" "conjunct" "I" (.int (0 : Int32))) (G_made : Fld Z h0 a1 "com/example/weighted_worlds/weightedworlds/Place" "made" "I" (.int (0 : Int32))) (H_at : Fld Z h0 a2 "com/example/weighted_worlds/weightedworlds/Place" "at" "Lcom/example/weighted_worlds/weightedworlds/Place;" .null) (H_depth : Fld Z h0 a2 "com/example/weighted_worlds/weightedworlds/Place" "depth" "I" (.int (0 : Int32))) (H_rank : Fld Z h0 a2 "com/example/weighted_worlds/weightedworlds/Place" "rank" "I" (.int (0 : Int32))) (H_turn : Fld Z h0 a2 "com/example/weighted_worlds/weightedworlds/Place" "turn" "I" (.int (0 : Int32))) (H_conjunct : Fld Z h0 a2 "com/example/weighted_worlds/weightedworlds/Place" "conjunct" "I" (.int (0 : Int32))) (H_made : Fld Z h0 a2 "com/example/weighted_worlds/weightedworlds/Place" "made" "I" (.int (0 : Int32))) :
    own_Met l Z (⟨"com/example/weighted_worlds/weightedworlds/Place", "compareTo", "(Lcom/example/weighted_worlds/weightedworlds/Place;)I"⟩ : MethodName) prog_15_method_7_code 5 (some .int) ({ frames := 1, cells := 0, slots := 0, locals := 13 } : Room) #[(.ref a1), (.ref a2)] h0 (fun v h L => v = some (.int (0 : Int32)) ∧ Fr n0 L ∧ h = h0) := by
  refine own_body pn_4 ?_
  intro p e s m below meth c T0 hZ hx hby hml hown hnm hret hlk X0 e0 F hF
  have N0 := Fr.nil n0
  have K0 := Keep.refl h0 []
  refine own_cast (g' := (mkF m 0 #[.val (.ref a1), .val (.ref a2), .unset, .unset, .unset] [])) (by first | rfl | simp [entryFrame, mkF, argsToLocals, Value.category]) ?_
  refine own_st (T' := T0) (g' := (mkF m 1 #[.val (.ref a1), .val (.ref a2), .unset, .unset, .unset] [(.ref a1)])) (fun t9 k9 => XS.aloadN X0.here hx rfl (hb hby d4_0) rfl rfl k9) ?_
  obtain ⟨T1, X1, e1, st1⟩ := getF X0 hx hZ hown (host := "") (Or.inl (hw _ (List.mem_of_getElem? (i := 14) rfl))) Via.refl e0 G_depth (g := (mkF m 1 #[.val (.ref a1), .val (.ref a2), .unset, .unset, .unset] [(.ref a1)])) rfl rfl (hb hby d4_1)
  refine own_st (T' := T1) (g' := (mkF m 4 #[.val (.ref a1), .val (.ref a2), .unset, .unset, .unset] [(.int (0 : Int32))])) (fun t9 k9 => st1 t9 k9) ?_
  refine own_st (T' := T1) (g' := (mkF m 5 #[.val (.ref a1), .val (.ref a2), .unset, .unset, .unset] [(.ref a2), (.int (0 : Int32))])) (fun t9 k9 => XS.aloadN X1.here hx rfl (hb hby d4_4) rfl rfl k9) ?_
  obtain ⟨T2, X2, e2, st2⟩ := getF X1 hx hZ hown (host := "") (Or.inl (hw _ (List.mem_of_getElem? (i := 14) rfl))) Via.refl e1 H_depth (g := (mkF m 5 #[.val (.ref a1), .val (.ref a2), .unset, .unset, .unset] [(.ref a2), (.int (0 : Int32))])) rfl rfl (hb hby d4_5)
  refine own_st (T' := T2) (g' := (mkF m 8 #[.val (.ref a1), .val (.ref a2), .unset, .unset, .unset] [(.int (0 : Int32)), (.int (0 : Int32))])) (fun t9 k9 => st2 t9 k9) ?_
  refine own_st (T' := T2) (g' := (mkF m 23 #[.val (.ref a1), .val (.ref a2), .unset, .unset, .unset] [])) (fun t9 k9 => XS.icmpYes X2.here hx rfl (pc0 := 8) (pc' := 23) rfl (hb hby d4_8) rfl (teq rfl).1 (by decide) (by decide) k9) ?_
  refine own_st (T' := T2) (g' := (mkF m 24 #[.val (.ref a1), .val (.ref a2), .unset, .unset, .unset] [(.ref a1)])) (fun t9 k9 => XS.aloadN X2.here hx rfl (hb hby d4_23) rfl rfl k9) ?_
  refine own_st (T' := T2) (g' := (mkF m 25 #[.val (.ref a1), .val (.ref a2), .val (.ref a1), .unset, .unset] [])) (fun t9 k9 => XS.astoreN X2.here hx rfl (hb hby d4_24) rfl rfl (l' := #[.val (.ref a1), .val (.ref a2), .val (.ref a1), .unset, .unset]) rfl k9) ?_
  refine own_st (T' := T2) (g' := (mkF m 26 #[.val (.ref a1), .val (.ref a2), .val (.ref a1), .unset, .unset] [(.ref a2)])) (fun t9 k9 => XS.aloadN X2.here hx rfl (hb hby d4_25) rfl rfl k9) ?_
  refine own_st (T' := T2) (g' := (mkF m 27 #[.val (.ref a1), .val (.ref a2), .val (.ref a1), .val (.ref a2), .unset] [])) (fun t9 k9 => XS.astoreN X2.here hx rfl (hb hby d4_26) rfl rfl (l' := #[.val (.ref a1), .val (.ref a2), .val (.ref a1), .val (.ref a2), .unset]) rfl k9) ?_
  refine own_st (T' := T2) (g' := (mkF m 28 #[.val (.ref a1), .val (.ref a2), .val (.ref a1), .val (.ref a2), .unset] [(.ref a1)])) (fun t9 k9 => XS.aloadN X2.here hx rfl (hb hby d4_27) rfl rfl k9) ?_
  obtain ⟨T3, X3, e3, st3⟩ := getF X2 hx hZ hown (host := "") (Or.inl (hw _ (List.mem_of_getElem? (i := 12) rfl))) Via.refl e2 G_at (g := (mkF m 28 #[.val (.ref a1), .val (.ref a2), .val (.ref a1), .val (.ref a2), .unset] [(.ref a1)])) rfl rfl (hb hby d4_28)
  refine own_st (T' := T3) (g' := (mkF m 31 #[.val (.ref a1), .val (.ref a2), .val (.ref a1), .val (.ref a2), .unset] [.null])) (fun t9 k9 => st3 t9 k9) ?_
  refine own_st (T' := T3) (g' := (mkF m 32 #[.val (.ref a1), .val (.ref a2), .val (.ref a1), .val (.ref a2), .unset] [(.ref a2), .null])) (fun t9 k9 => XS.aloadN X3.here hx rfl (hb hby d4_31) rfl rfl k9) ?_
  obtain ⟨T4, X4, e4, st4⟩ := getF X3 hx hZ hown (host := "") (Or.inl (hw _ (List.mem_of_getElem? (i := 12) rfl))) Via.refl e3 H_at (g := (mkF m 32 #[.val (.ref a1), .val (.ref a2), .val (.ref a1), .val (.ref a2), .unset] [(.ref a2), .null])) rfl rfl (hb hby d4_32)
  refine own_st (T' := T4) (g' := (mkF m 35 #[.val (.ref a1), .val (.ref a2), .val (.ref a1), .val (.ref a2), .unset] [.null, .null])) (fun t9 k9 => st4 t9 k9) ?_
  refine own_st (T' := T4) (g' := (mkF m 93 #[.val (.ref a1), .val (.ref a2), .val (.ref a1), .val (.ref a2), .unset] [])) (fun t9 k9 => Jvm.RoadKit.acmp (g := (mkF m 35 #[.val (.ref a1), .val (.ref a2), .val (.ref a1), .val (.ref a2), .unset] [.null, .null])) X4 hx rfl rfl rfl (pc0 := 35) (pc' := 93) (same := true) rfl (hb hby d4_35) rfl (decide_eq_true rfl) (by decide) (by decide) k9) ?_
  refine own_st (T' := T4) (g' := (mkF m 94 #[.val (.ref a1), .val (.ref a2), .val (.ref a1), .val (.ref a2), .unset] [(.ref a1)])) (fun t9 k9 => XS.aloadN X4.here hx rfl (hb hby d4_93) rfl rfl k9) ?_
  obtain ⟨T5, X5, e5, st5⟩ := getF X4 hx hZ hown (host := "") (Or.inl (hw _ (List.mem_of_getElem? (i := 18) rfl))) Via.refl e4 G_rank (g := (mkF m 94 #[.val (.ref a1), .val (.ref a2), .val (.ref a1), .val (.ref a2), .unset] [(.ref a1)])) rfl rfl (hb hby d4_94)
  refine own_st (T' := T5) (g' := (mkF m 97 #[.val (.ref a1), .val (.ref a2), .val (.ref a1), .val (.ref a2), .unset] [(.int (0 : Int32))])) (fun t9 k9 => st5 t9 k9) ?_
  refine own_st (T' := T5) (g' := (mkF m 98 #[.val (.ref a1), .val (.ref a2), .val (.ref a1), .val (.ref a2), .unset] [(.ref a2), (.int (0 : Int32))])) (fun t9 k9 => XS.aloadN X5.here hx rfl (hb hby d4_97) rfl rfl k9) ?_
  obtain ⟨T6, X6, e6, st6⟩ := getF X5 hx hZ hown (host := "") (Or.inl (hw _ (List.mem_of_getElem? (i := 18) rfl))) Via.refl e5 H_rank (g := (mkF m 98 #[.val (.ref a1), .val (.ref a2), .val (.ref a1), .val (.ref a2), .unset] [(.ref a2), (.int (0 : Int32))])) rfl rfl (hb hby d4_98)
  refine own_st (T' := T6) (g' := (mkF m 101 #[.val (.ref a1), .val (.ref a2), .val (.ref a1), .val (.ref a2), .unset] [(.int (0 : Int32)), (.int (0 : Int32))])) (fun t9 k9 => st6 t9 k9) ?_
  refine own_st (T' := T6) (g' := (mkF m 116 #[.val (.ref a1), .val (.ref a2), .val (.ref a1), .val (.ref a2), .unset] [])) (fun t9 k9 => XS.icmpYes X6.here hx rfl (pc0 := 101) (pc' := 116) rfl (hb hby d4_101) rfl (teq rfl).1 (by decide) (by decide) k9) ?_
  refine own_st (T' := T6) (g' := (mkF m 117 #[.val (.ref a1), .val (.ref a2), .val (.ref a1), .val (.ref a2), .unset] [(.ref a1)])) (fun t9 k9 => XS.aloadN X6.here hx rfl (hb hby d4_116) rfl rfl k9) ?_
  obtain ⟨T7, X7, e7, st7⟩ := getF X6 hx hZ hown (host := "") (Or.inl (hw _ (List.mem_of_getElem? (i := 20) rfl))) Via.refl e6 G_turn (g := (mkF m 117 #[.val (.ref a1), .val (.ref a2), .val (.ref a1), .val (.ref a2), .unset] [(.ref a1)])) rfl rfl (hb hby d4_117)
  refine own_st (T' := T7) (g' := (mkF m 120 #[.val (.ref a1), .val (.ref a2), .val (.ref a1), .val (.ref a2), .unset] [(.int (0 : Int32))])) (fun t9 k9 => st7 t9 k9) ?_
  refine own_st (T' := T7) (g' := (mkF m 121 #[.val (.ref a1), .val (.ref a2), .val (.ref a1), .val (.ref a2), .unset] [(.ref a2), (.int (0 : Int32))])) (fun t9 k9 => XS.aloadN X7.here hx rfl (hb hby d4_120) rfl rfl k9) ?_
  obtain ⟨T8, X8, e8, st8⟩ := getF X7 hx hZ hown (host := "") (Or.inl (hw _ (List.mem_of_getElem? (i := 20) rfl))) Via.refl e7 H_turn (g := (mkF m 121 #[.val (.ref a1), .val (.ref a2), .val (.ref a1), .val (.ref a2), .unset] [(.ref a2), (.int (0 : Int32))])) rfl rfl (hb hby d4_121)
  refine own_st (T' := T8) (g' := (mkF m 124 #[.val (.ref a1), .val (.ref a2), .val (.ref a1), .val (.ref a2), .unset] [(.int (0 : Int32)), (.int (0 : Int32))])) (fun t9 k9 => st8 t9 k9) ?_
  refine own_st (T' := T8) (g' := (mkF m 139 #[.val (.ref a1), .val (.ref a2), .val (.ref a1), .val (.ref a2), .unset] [])) (fun t9 k9 => XS.icmpYes X8.here hx rfl (pc0 := 124) (pc' := 139) rfl (hb hby d4_124) rfl (teq rfl).1 (by decide) (by decide) k9) ?_
  refine own_st (T' := T8) (g' := (mkF m 140 #[.val (.ref a1), .val (.ref a2), .val (.ref a1), .val (.ref a2), .unset] [(.ref a1)])) (fun t9 k9 => XS.aloadN X8.here hx rfl (hb hby d4_139) rfl rfl k9) ?_
  obtain ⟨T9, X9, e9, st9⟩ := getF X8 hx hZ hown (host := "") (Or.inl (hw _ (List.mem_of_getElem? (i := 22) rfl))) Via.refl e8 G_conjunct (g := (mkF m 140 #[.val (.ref a1), .val (.ref a2), .val (.ref a1), .val (.ref a2), .unset] [(.ref a1)])) rfl rfl (hb hby d4_140)
  refine own_st (T' := T9) (g' := (mkF m 143 #[.val (.ref a1), .val (.ref a2), .val (.ref a1), .val (.ref a2), .unset] [(.int (0 : Int32))])) (fun t9 k9 => st9 t9 k9) ?_
  refine own_st (T' := T9) (g' := (mkF m 144 #[.val (.ref a1), .val (.ref a2), .val (.ref a1), .val (.ref a2), .unset] [(.ref a2), (.int (0 : Int32))])) (fun t9 k9 => XS.aloadN X9.here hx rfl (hb hby d4_143) rfl rfl k9) ?_
  obtain ⟨T10, X10, e10, st10⟩ := getF X9 hx hZ hown (host := "") (Or.inl (hw _ (List.mem_of_getElem? (i := 22) rfl))) Via.refl e9 H_conjunct (g := (mkF m 144 #[.val (.ref a1), .val (.ref a2), .val (.ref a1), .val (.ref a2), .unset] [(.ref a2), (.int (0 : Int32))])) rfl rfl (hb hby d4_144)
  refine own_st (T' := T10) (g' := (mkF m 147 #[.val (.ref a1), .val (.ref a2), .val (.ref a1), .val (.ref a2), .unset] [(.int (0 : Int32)), (.int (0 : Int32))])) (fun t9 k9 => st10 t9 k9) ?_
  refine own_st (T' := T10) (g' := (mkF m 162 #[.val (.ref a1), .val (.ref a2), .val (.ref a1), .val (.ref a2), .unset] [])) (fun t9 k9 => XS.icmpYes X10.here hx rfl (pc0 := 147) (pc' := 162) rfl (hb hby d4_147) rfl (teq rfl).1 (by decide) (by decide) k9) ?_
  refine own_st (T' := T10) (g' := (mkF m 163 #[.val (.ref a1), .val (.ref a2), .val (.ref a1), .val (.ref a2), .unset] [(.ref a1)])) (fun t9 k9 => XS.aloadN X10.here hx rfl (hb hby d4_162) rfl rfl k9) ?_
  obtain ⟨T11, X11, e11, st11⟩ := getF X10 hx hZ hown (host := "") (Or.inl (hw _ (List.mem_of_getElem? (i := 24) rfl))) Via.refl e10 G_made (g := (mkF m 163 #[.val (.ref a1), .val (.ref a2), .val (.ref a1), .val (.ref a2), .unset] [(.ref a1)])) rfl rfl (hb hby d4_163)
  refine own_st (T' := T11) (g' := (mkF m 166 #[.val (.ref a1), .val (.ref a2), .val (.ref a1), .val (.ref a2), .unset] [(.int (0 : Int32))])) (fun t9 k9 => st11 t9 k9) ?_
  refine own_st (T' := T11) (g' := (mkF m 167 #[.val (.ref a1), .val (.ref a2), .val (.ref a1), .val (.ref a2), .unset] [(.ref a2), (.int (0 : Int32))])) (fun t9 k9 => XS.aloadN X11.here hx rfl (hb hby d4_166) rfl rfl k9) ?_
  obtain ⟨T12, X12, e12, st12⟩ := getF X11 hx hZ hown (host := "") (Or.inl (hw _ (List.mem_of_getElem? (i := 24) rfl))) Via.refl e11 H_made (g := (mkF m 167 #[.val (.ref a1), .val (.ref a2), .val (.ref a1), .val (.ref a2), .unset] [(.ref a2), (.int (0 : Int32))])) rfl rfl (hb hby d4_167)
  refine own_st (T' := T12) (g' := (mkF m 170 #[.val (.ref a1), .val (.ref a2), .val (.ref a1), .val (.ref a2), .unset] [(.int (0 : Int32)), (.int (0 : Int32))])) (fun t9 k9 => st12 t9 k9) ?_
  obtain ⟨_, _, ⟨T13, L13, k13, n13⟩, -, X13, ⟨Lc13, hQ13, l13, y13, z13⟩, st13⟩ := Jvm.LawKit.callS X12 hx (y := (⟨"java/lang/Integer", "compare", "(II)I"⟩ : MethodName)) hown (mvT hZ (hw _ (List.mem_of_getElem? (i := 31) rfl))) (mvT hZ (hw _ (List.mem_of_getElem? (i := 32) rfl))) (mvT hZ (hw _ (List.mem_of_getElem? (i := 33) rfl))) (mvT hZ (hw _ (List.mem_of_getElem? (i := 34) rfl))) (by decide) (own_back (W := 0) (rm5 l Z a0 hw (0 : Int32) (0 : Int32) h0 n0 Z0) hZ (hw _ (List.mem_of_getElem? (i := 34) rfl)) (hw _ (List.mem_of_getElem? (i := 33) rfl)) (by decide) (by decide)) (g := (mkF m 170 #[.val (.ref a1), .val (.ref a2), .val (.ref a1), .val (.ref a2), .unset] [(.int (0 : Int32)), (.int (0 : Int32))])) rfl (by rw [hml]; rfl) (argsL := [(.int (0 : Int32)), (.int (0 : Int32))]) (rest := []) (lenOf pd_4 rfl) rfl (by show 2 * 0 + _ ≤ _; exact Nat.le_of_eq rfl) (hb hby d4_170) (fun _ _ => ⟨rfl, e12, (Nat.le_of_ble_eq_true rfl), (Nat.le_of_ble_eq_true rfl)⟩)
  dsimp only [Pt.U, Pt.locs, Pt.cells, Pt.slots] at X13 l13 y13 z13 st13 hQ13
  subst l13 y13 z13
  obtain ⟨z13, rfl, Nq13, he13, hz13⟩ := hQ13
  have N13 := Fr.app N0 Nq13
  have e13 : T13.heap = h0 := he13
  refine own_st (T' := T13) (g' := (mkF m 173 #[.val (.ref a1), .val (.ref a2), .val (.ref a1), .val (.ref a2), .unset] [(.int z13)])) (fun t9 k9 => st13 t9 k9) ?_
  obtain rfl : z13 = 0 := hz13.elim (fun q => absurd q.1 (by decide)) (fun q => q.elim (fun q => q.2.2) (fun q => absurd rfl q.2.1))
  show own_Go p e below F T13 (mkF m 173 #[.val (.ref a1), .val (.ref a2), .val (.ref a1), .val (.ref a2), .unset] [(.int (0 : Int32))])
  refine own_ret (v := some (.int (0 : Int32))) hF X13 (own_some hret) hlk (fun fs hr => retI X13 hx hret (hb hby d4_173) hr) ?_ (by decide) (by decide)
  try rw [e13]
  exact ⟨rfl, N13, rfl⟩
theorem d11_0 : decode prog_15_method_2_code 0 = .ok (.aload_n 0, 1) := by decide +kernel
theorem d11_1 : decode prog_15_method_2_code 1 = .ok (.getfield 21, 3) := by decide +kernel
theorem d11_4 : decode prog_15_method_2_code 4 = .ok (.astore_n 1, 1) := by decide +kernel
theorem d11_5 : decode prog_15_method_2_code 5 = .ok (.aload_n 0, 1) := by decide +kernel
theorem d11_6 : decode prog_15_method_2_code 6 = .ok (.getfield 13, 3) := by decide +kernel
theorem d11_9 : decode prog_15_method_2_code 9 = .ok (.aload_n 1, 1) := by decide +kernel
theorem d11_10 : decode prog_15_method_2_code 10 = .ok (.getfield 13, 3) := by decide +kernel
theorem d11_13 : decode prog_15_method_2_code 13 = .ok (.isub, 1) := by decide +kernel
theorem d11_14 : decode prog_15_method_2_code 14 = .ok (.aload_n 1, 1) := by decide +kernel
theorem d11_15 : decode prog_15_method_2_code 15 = .ok (.getfield 13, 3) := by decide +kernel
theorem d11_18 : decode prog_15_method_2_code 18 = .ok (.aload_n 1, 1) := by decide +kernel
theorem d11_19 : decode prog_15_method_2_code 19 = .ok (.getfield 21, 3) := by decide +kernel
theorem d11_22 : decode prog_15_method_2_code 22 = .ok (.getfield 13, 3) := by decide +kernel
theorem d11_25 : decode prog_15_method_2_code 25 = .ok (.isub, 1) := by decide +kernel
theorem d11_26 : decode prog_15_method_2_code 26 = .ok (.if_icmp .ne 7, 3) := by decide +kernel
theorem d11_29 : decode prog_15_method_2_code 29 = .ok (.iconst 1, 1) := by decide +kernel
theorem d11_30 : decode prog_15_method_2_code 30 = .ok (.goto 4, 3) := by decide +kernel
theorem d11_33 : decode prog_15_method_2_code 33 = .ok (.iconst 0, 1) := by decide +kernel
theorem d11_34 : decode prog_15_method_2_code 34 = .ok (.istore_n 2, 1) := by decide +kernel
theorem d11_35 : decode prog_15_method_2_code 35 = .ok (.iload_n 2, 1) := by decide +kernel
theorem d11_36 : decode prog_15_method_2_code 36 = .ok (.ifCond .eq 10, 3) := by decide +kernel
theorem d11_39 : decode prog_15_method_2_code 39 = .ok (.aload_n 1, 1) := by decide +kernel
theorem d11_40 : decode prog_15_method_2_code 40 = .ok (.getfield 21, 3) := by decide +kernel
theorem d11_43 : decode prog_15_method_2_code 43 = .ok (.goto 4, 3) := by decide +kernel
theorem d11_46 : decode prog_15_method_2_code 46 = .ok (.aload_n 0, 1) := by decide +kernel
theorem d11_47 : decode prog_15_method_2_code 47 = .ok (.areturn, 1) := by decide +kernel
theorem pn_11 : plainFor (⟨"com/example/weighted_worlds/weightedworlds/Place", "jumpBelow", "(Lcom/example/weighted_worlds/weightedworlds/Place;)Lcom/example/weighted_worlds/weightedworlds/Place;"⟩ : MethodName) = true := plainFor_of_name (by first | (simp [plainName, overriddenIn]; done) | decide +kernel)
set_option maxRecDepth 65536 in
set_option maxHeartbeats 40000000 in
theorem rm11 (l : Launch) (Z : State) (a0 : Array Value) (hw : ∀ d ∈ tables_1, d.before a0 Z = true) (a1 f1 f2 : Addr) (dp df dg : Int32) (h0 : Heap) (n0 : Nat) (Z0 : n0 ≤ h0.size) (F1 : Fld Z h0 a1 "com/example/weighted_worlds/weightedworlds/Place" "depth" "I" (.int dp)) (F2 : Fld Z h0 a1 "com/example/weighted_worlds/weightedworlds/Place" "jump" "Lcom/example/weighted_worlds/weightedworlds/Place;" (.ref f1)) (F3 : Fld Z h0 f1 "com/example/weighted_worlds/weightedworlds/Place" "depth" "I" (.int df)) (F4 : Fld Z h0 f1 "com/example/weighted_worlds/weightedworlds/Place" "jump" "Lcom/example/weighted_worlds/weightedworlds/Place;" (.ref f2)) (F5 : Fld Z h0 f2 "com/example/weighted_worlds/weightedworlds/Place" "depth" "I" (.int dg)) :
    own_Met l Z (⟨"com/example/weighted_worlds/weightedworlds/Place", "jumpBelow", "(Lcom/example/weighted_worlds/weightedworlds/Place;)Lcom/example/weighted_worlds/weightedworlds/Place;"⟩ : MethodName) prog_15_method_2_code 3 (some (.object "com/example/weighted_worlds/weightedworlds/Place")) ({ frames := 0, cells := 0, slots := 0, locals := 0 } : Room) #[(.ref a1)] h0 (fun v h L => ∃ r, v = some (.ref r) ∧ Fr n0 L ∧ h = h0 ∧ ((dp - df = df - dg ∧ r = f2) ∨ (¬ dp - df = df - dg ∧ r = a1))) := by
  refine own_body pn_11 ?_
  intro p e s m below meth c T0 hZ hx hby hml hown hnm hret hlk X0 e0 F hF
  have N0 := Fr.nil n0
  have K0 := Keep.refl h0 []
  refine own_cast (g' := (mkF m 0 #[.val (.ref a1), .unset, .unset] [])) (by first | rfl | simp [entryFrame, mkF, argsToLocals, Value.category]) ?_
  refine own_st (T' := T0) (g' := (mkF m 1 #[.val (.ref a1), .unset, .unset] [(.ref a1)])) (fun t9 k9 => XS.aloadN X0.here hx rfl (hb hby d11_0) rfl rfl k9) ?_
  obtain ⟨T1, X1, e1, st1⟩ := getF X0 hx hZ hown (host := "") (Or.inl (hw _ (List.mem_of_getElem? (i := 16) rfl))) Via.refl e0 F2 (g := (mkF m 1 #[.val (.ref a1), .unset, .unset] [(.ref a1)])) rfl rfl (hb hby d11_1)
  refine own_st (T' := T1) (g' := (mkF m 4 #[.val (.ref a1), .unset, .unset] [(.ref f1)])) (fun t9 k9 => st1 t9 k9) ?_
  refine own_st (T' := T1) (g' := (mkF m 5 #[.val (.ref a1), .val (.ref f1), .unset] [])) (fun t9 k9 => XS.astoreN X1.here hx rfl (hb hby d11_4) rfl rfl (l' := #[.val (.ref a1), .val (.ref f1), .unset]) rfl k9) ?_
  refine own_st (T' := T1) (g' := (mkF m 6 #[.val (.ref a1), .val (.ref f1), .unset] [(.ref a1)])) (fun t9 k9 => XS.aloadN X1.here hx rfl (hb hby d11_5) rfl rfl k9) ?_
  obtain ⟨T2, X2, e2, st2⟩ := getF X1 hx hZ hown (host := "") (Or.inl (hw _ (List.mem_of_getElem? (i := 14) rfl))) Via.refl e1 F1 (g := (mkF m 6 #[.val (.ref a1), .val (.ref f1), .unset] [(.ref a1)])) rfl rfl (hb hby d11_6)
  refine own_st (T' := T2) (g' := (mkF m 9 #[.val (.ref a1), .val (.ref f1), .unset] [(.int dp)])) (fun t9 k9 => st2 t9 k9) ?_
  refine own_st (T' := T2) (g' := (mkF m 10 #[.val (.ref a1), .val (.ref f1), .unset] [(.ref f1), (.int dp)])) (fun t9 k9 => XS.aloadN X2.here hx rfl (hb hby d11_9) rfl rfl k9) ?_
  obtain ⟨T3, X3, e3, st3⟩ := getF X2 hx hZ hown (host := "") (Or.inl (hw _ (List.mem_of_getElem? (i := 14) rfl))) Via.refl e2 F3 (g := (mkF m 10 #[.val (.ref a1), .val (.ref f1), .unset] [(.ref f1), (.int dp)])) rfl rfl (hb hby d11_10)
  refine own_st (T' := T3) (g' := (mkF m 13 #[.val (.ref a1), .val (.ref f1), .unset] [(.int df), (.int dp)])) (fun t9 k9 => st3 t9 k9) ?_
  refine own_st (T' := T3) (g' := (mkF m 14 #[.val (.ref a1), .val (.ref f1), .unset] [(.int (dp - df))])) (fun t9 k9 => XS.isub X3.here hx rfl (hb hby d11_13) rfl k9) ?_
  refine own_st (T' := T3) (g' := (mkF m 15 #[.val (.ref a1), .val (.ref f1), .unset] [(.ref f1), (.int (dp - df))])) (fun t9 k9 => XS.aloadN X3.here hx rfl (hb hby d11_14) rfl rfl k9) ?_
  obtain ⟨T4, X4, e4, st4⟩ := getF X3 hx hZ hown (host := "") (Or.inl (hw _ (List.mem_of_getElem? (i := 14) rfl))) Via.refl e3 F3 (g := (mkF m 15 #[.val (.ref a1), .val (.ref f1), .unset] [(.ref f1), (.int (dp - df))])) rfl rfl (hb hby d11_15)
  refine own_st (T' := T4) (g' := (mkF m 18 #[.val (.ref a1), .val (.ref f1), .unset] [(.int df), (.int (dp - df))])) (fun t9 k9 => st4 t9 k9) ?_
  refine own_st (T' := T4) (g' := (mkF m 19 #[.val (.ref a1), .val (.ref f1), .unset] [(.ref f1), (.int df), (.int (dp - df))])) (fun t9 k9 => XS.aloadN X4.here hx rfl (hb hby d11_18) rfl rfl k9) ?_
  obtain ⟨T5, X5, e5, st5⟩ := getF X4 hx hZ hown (host := "") (Or.inl (hw _ (List.mem_of_getElem? (i := 16) rfl))) Via.refl e4 F4 (g := (mkF m 19 #[.val (.ref a1), .val (.ref f1), .unset] [(.ref f1), (.int df), (.int (dp - df))])) rfl rfl (hb hby d11_19)
  refine own_st (T' := T5) (g' := (mkF m 22 #[.val (.ref a1), .val (.ref f1), .unset] [(.ref f2), (.int df), (.int (dp - df))])) (fun t9 k9 => st5 t9 k9) ?_
  obtain ⟨T6, X6, e6, st6⟩ := getF X5 hx hZ hown (host := "") (Or.inl (hw _ (List.mem_of_getElem? (i := 14) rfl))) Via.refl e5 F5 (g := (mkF m 22 #[.val (.ref a1), .val (.ref f1), .unset] [(.ref f2), (.int df), (.int (dp - df))])) rfl rfl (hb hby d11_22)
  refine own_st (T' := T6) (g' := (mkF m 25 #[.val (.ref a1), .val (.ref f1), .unset] [(.int dg), (.int df), (.int (dp - df))])) (fun t9 k9 => st6 t9 k9) ?_
  refine own_st (T' := T6) (g' := (mkF m 26 #[.val (.ref a1), .val (.ref f1), .unset] [(.int (df - dg)), (.int (dp - df))])) (fun t9 k9 => XS.isub X6.here hx rfl (hb hby d11_25) rfl k9) ?_
  by_cases hq : (dp - df) = (df - dg)
  · refine own_st (T' := T6) (g' := (mkF m 29 #[.val (.ref a1), .val (.ref f1), .unset] [])) (fun t9 k9 => XS.icmpNo X6.here hx rfl (hb hby d11_26) rfl (teq hq).2 k9) ?_
    refine own_st (T' := T6) (g' := (mkF m 30 #[.val (.ref a1), .val (.ref f1), .unset] [(.int (1 : Int32))])) (fun t9 k9 => XS.iconst X6.here hx rfl (hb hby d11_29) k9) ?_
    refine own_st (T' := T6) (g' := (mkF m 34 #[.val (.ref a1), .val (.ref f1), .unset] [(.int (1 : Int32))])) (fun t9 k9 => XS.goto X6.here hx rfl (pc0 := 30) (pc' := 34) rfl (hb hby d11_30) (by decide) (by decide) k9) ?_
    refine own_st (T' := T6) (g' := (mkF m 35 #[.val (.ref a1), .val (.ref f1), .val (.int (1 : Int32))] [])) (fun t9 k9 => XS.istoreN X6.here hx rfl (hb hby d11_34) rfl (l' := #[.val (.ref a1), .val (.ref f1), .val (.int (1 : Int32))]) rfl k9) ?_
    refine own_st (T' := T6) (g' := (mkF m 36 #[.val (.ref a1), .val (.ref f1), .val (.int (1 : Int32))] [(.int (1 : Int32))])) (fun t9 k9 => XS.iloadN X6.here hx rfl (hb hby d11_35) rfl k9) ?_
    refine own_st (T' := T6) (g' := (mkF m 39 #[.val (.ref a1), .val (.ref f1), .val (.int (1 : Int32))] [])) (fun t9 k9 => XS.ifNo X6.here hx rfl (hb hby d11_36) rfl ((if0 _ _).trans (feq (by decide)).1) k9) ?_
    refine own_st (T' := T6) (g' := (mkF m 40 #[.val (.ref a1), .val (.ref f1), .val (.int (1 : Int32))] [(.ref f1)])) (fun t9 k9 => XS.aloadN X6.here hx rfl (hb hby d11_39) rfl rfl k9) ?_
    obtain ⟨T7, X7, e7, st7⟩ := getF X6 hx hZ hown (host := "") (Or.inl (hw _ (List.mem_of_getElem? (i := 16) rfl))) Via.refl e6 F4 (g := (mkF m 40 #[.val (.ref a1), .val (.ref f1), .val (.int (1 : Int32))] [(.ref f1)])) rfl rfl (hb hby d11_40)
    refine own_st (T' := T7) (g' := (mkF m 43 #[.val (.ref a1), .val (.ref f1), .val (.int (1 : Int32))] [(.ref f2)])) (fun t9 k9 => st7 t9 k9) ?_
    refine own_st (T' := T7) (g' := (mkF m 47 #[.val (.ref a1), .val (.ref f1), .val (.int (1 : Int32))] [(.ref f2)])) (fun t9 k9 => XS.goto X7.here hx rfl (pc0 := 43) (pc' := 47) rfl (hb hby d11_43) (by decide) (by decide) k9) ?_
    refine own_ret (v := some (.ref f2)) hF X7 (own_some hret) hlk (fun fs hr => own_retA X7 hx hret rfl rfl (hb hby d11_47) hr) ?_ (by decide) (by decide)
    try rw [e7]
    exact ⟨_, rfl, N0, rfl, Or.inl ⟨hq, rfl⟩⟩
  · refine own_st (T' := T6) (g' := (mkF m 33 #[.val (.ref a1), .val (.ref f1), .unset] [])) (fun t9 k9 => XS.icmpYes X6.here hx rfl (pc0 := 26) (pc' := 33) rfl (hb hby d11_26) rfl (feq hq).2 (by decide) (by decide) k9) ?_
    refine own_st (T' := T6) (g' := (mkF m 34 #[.val (.ref a1), .val (.ref f1), .unset] [(.int (0 : Int32))])) (fun t9 k9 => XS.iconst X6.here hx rfl (hb hby d11_33) k9) ?_
    refine own_st (T' := T6) (g' := (mkF m 35 #[.val (.ref a1), .val (.ref f1), .val (.int (0 : Int32))] [])) (fun t9 k9 => XS.istoreN X6.here hx rfl (hb hby d11_34) rfl (l' := #[.val (.ref a1), .val (.ref f1), .val (.int (0 : Int32))]) rfl k9) ?_
    refine own_st (T' := T6) (g' := (mkF m 36 #[.val (.ref a1), .val (.ref f1), .val (.int (0 : Int32))] [(.int (0 : Int32))])) (fun t9 k9 => XS.iloadN X6.here hx rfl (hb hby d11_35) rfl k9) ?_
    refine own_st (T' := T6) (g' := (mkF m 46 #[.val (.ref a1), .val (.ref f1), .val (.int (0 : Int32))] [])) (fun t9 k9 => XS.ifYes X6.here hx rfl (pc0 := 36) (pc' := 46) rfl (hb hby d11_36) rfl ((if0 _ _).trans (teq rfl).1) (by decide) (by decide) k9) ?_
    refine own_st (T' := T6) (g' := (mkF m 47 #[.val (.ref a1), .val (.ref f1), .val (.int (0 : Int32))] [(.ref a1)])) (fun t9 k9 => XS.aloadN X6.here hx rfl (hb hby d11_46) rfl rfl k9) ?_
    refine own_ret (v := some (.ref a1)) hF X6 (own_some hret) hlk (fun fs hr => own_retA X6 hx hret rfl rfl (hb hby d11_47) hr) ?_ (by decide) (by decide)
    try rw [e6]
    exact ⟨_, rfl, N0, rfl, Or.inr ⟨hq, rfl⟩⟩
theorem d2_0 : decode prog_15_method_1_code 0 = .ok (.aload_n 0, 1) := by decide +kernel
theorem d2_1 : decode prog_15_method_1_code 1 = .ok (.invokespecial 1, 3) := by decide +kernel
theorem d2_4 : decode prog_15_method_1_code 4 = .ok (.aload_n 0, 1) := by decide +kernel
theorem d2_5 : decode prog_15_method_1_code 5 = .ok (.aload_n 1, 1) := by decide +kernel
theorem d2_6 : decode prog_15_method_1_code 6 = .ok (.putfield 7, 3) := by decide +kernel
theorem d2_9 : decode prog_15_method_1_code 9 = .ok (.aload_n 0, 1) := by decide +kernel
theorem d2_10 : decode prog_15_method_1_code 10 = .ok (.aload_n 1, 1) := by decide +kernel
theorem d2_11 : decode prog_15_method_1_code 11 = .ok (.ifnonnull 7, 3) := by decide +kernel
theorem d2_14 : decode prog_15_method_1_code 14 = .ok (.iconst 0, 1) := by decide +kernel
theorem d2_15 : decode prog_15_method_1_code 15 = .ok (.goto 9, 3) := by decide +kernel
theorem d2_18 : decode prog_15_method_1_code 18 = .ok (.aload_n 1, 1) := by decide +kernel
theorem d2_19 : decode prog_15_method_1_code 19 = .ok (.getfield 13, 3) := by decide +kernel
theorem d2_22 : decode prog_15_method_1_code 22 = .ok (.iconst 1, 1) := by decide +kernel
theorem d2_23 : decode prog_15_method_1_code 23 = .ok (.iadd, 1) := by decide +kernel
theorem d2_24 : decode prog_15_method_1_code 24 = .ok (.putfield 13, 3) := by decide +kernel
theorem d2_27 : decode prog_15_method_1_code 27 = .ok (.aload_n 0, 1) := by decide +kernel
theorem d2_28 : decode prog_15_method_1_code 28 = .ok (.aload_n 1, 1) := by decide +kernel
theorem d2_29 : decode prog_15_method_1_code 29 = .ok (.ifnonnull 7, 3) := by decide +kernel
theorem d2_32 : decode prog_15_method_1_code 32 = .ok (.aload_n 0, 1) := by decide +kernel
theorem d2_33 : decode prog_15_method_1_code 33 = .ok (.goto 7, 3) := by decide +kernel
theorem d2_36 : decode prog_15_method_1_code 36 = .ok (.aload_n 1, 1) := by decide +kernel
theorem d2_37 : decode prog_15_method_1_code 37 = .ok (.invokestatic 17, 3) := by decide +kernel
theorem d2_40 : decode prog_15_method_1_code 40 = .ok (.putfield 21, 3) := by decide +kernel
theorem d2_43 : decode prog_15_method_1_code 43 = .ok (.aload_n 0, 1) := by decide +kernel
theorem d2_44 : decode prog_15_method_1_code 44 = .ok (.iload_n 2, 1) := by decide +kernel
theorem d2_45 : decode prog_15_method_1_code 45 = .ok (.putfield 24, 3) := by decide +kernel
theorem d2_48 : decode prog_15_method_1_code 48 = .ok (.aload_n 0, 1) := by decide +kernel
theorem d2_49 : decode prog_15_method_1_code 49 = .ok (.iload_n 3, 1) := by decide +kernel
theorem d2_50 : decode prog_15_method_1_code 50 = .ok (.putfield 27, 3) := by decide +kernel
theorem d2_53 : decode prog_15_method_1_code 53 = .ok (.aload_n 0, 1) := by decide +kernel
theorem d2_54 : decode prog_15_method_1_code 54 = .ok (.iload 4, 2) := by decide +kernel
theorem d2_56 : decode prog_15_method_1_code 56 = .ok (.putfield 30, 3) := by decide +kernel
theorem d2_59 : decode prog_15_method_1_code 59 = .ok (.aload_n 0, 1) := by decide +kernel
theorem d2_60 : decode prog_15_method_1_code 60 = .ok (.iload 5, 2) := by decide +kernel
theorem d2_62 : decode prog_15_method_1_code 62 = .ok (.putfield 33, 3) := by decide +kernel
theorem d2_65 : decode prog_15_method_1_code 65 = .ok (.return_, 1) := by decide +kernel
theorem pn_2 : plainFor (⟨"com/example/weighted_worlds/weightedworlds/Place", "<init>", "(Lcom/example/weighted_worlds/weightedworlds/Place;IIII)V"⟩ : MethodName) = true := plainFor_of_name (by first | (simp [plainName, overriddenIn]; done) | decide +kernel)
set_option maxRecDepth 65536 in
set_option maxHeartbeats 40000000 in
theorem rmPr (l : Launch) (Z : State) (a0 : Array Value) (hw : ∀ d ∈ tables_1, d.before a0 Z = true) (a1 : Addr) (p2 p3 p4 p5 : Int32) (u0 u1 u2 u3 u4 u5 u6 u7 : Value) (h0 : Heap) (n0 : Nat) (Z0 : n0 ≤ h0.size) (E1 : Exa Z h0 a1 "com/example/weighted_worlds/weightedworlds/Place") (U_at : Fld Z h0 a1 "com/example/weighted_worlds/weightedworlds/Place" "at" "Lcom/example/weighted_worlds/weightedworlds/Place;" u0) (U_depth : Fld Z h0 a1 "com/example/weighted_worlds/weightedworlds/Place" "depth" "I" u1) (U_jump : Fld Z h0 a1 "com/example/weighted_worlds/weightedworlds/Place" "jump" "Lcom/example/weighted_worlds/weightedworlds/Place;" u2) (U_rank : Fld Z h0 a1 "com/example/weighted_worlds/weightedworlds/Place" "rank" "I" u3) (U_turn : Fld Z h0 a1 "com/example/weighted_worlds/weightedworlds/Place" "turn" "I" u4) (U_conjunct : Fld Z h0 a1 "com/example/weighted_worlds/weightedworlds/Place" "conjunct" "I" u5) (U_made : Fld Z h0 a1 "com/example/weighted_worlds/weightedworlds/Place" "made" "I" u6) (U_turns : Fld Z h0 a1 "com/example/weighted_worlds/weightedworlds/Place" "turns" "I" u7) (g_a1 : n0 ≤ a1) :
    own_Met l Z (⟨"com/example/weighted_worlds/weightedworlds/Place", "<init>", "(Lcom/example/weighted_worlds/weightedworlds/Place;IIII)V"⟩ : MethodName) prog_15_method_1_code 6 none ({ frames := 1, cells := 0, slots := 0, locals := 12 } : Room) #[(.ref a1), .null, (.int p2), (.int p3), (.int p4), (.int p5)] h0 (fun v h L => v = none ∧ Fr n0 L ∧ Keep h0 h [a1] ∧ Exa Z h a1 "com/example/weighted_worlds/weightedworlds/Place" ∧ Fld Z h a1 "com/example/weighted_worlds/weightedworlds/Place" "at" "Lcom/example/weighted_worlds/weightedworlds/Place;" .null ∧ Fld Z h a1 "com/example/weighted_worlds/weightedworlds/Place" "depth" "I" (.int (0 : Int32)) ∧ Fld Z h a1 "com/example/weighted_worlds/weightedworlds/Place" "jump" "Lcom/example/weighted_worlds/weightedworlds/Place;" (.ref a1) ∧ Fld Z h a1 "com/example/weighted_worlds/weightedworlds/Place" "rank" "I" (.int p2) ∧ Fld Z h a1 "com/example/weighted_worlds/weightedworlds/Place" "turn" "I" (.int p3) ∧ Fld Z h a1 "com/example/weighted_worlds/weightedworlds/Place" "conjunct" "I" (.int p4) ∧ Fld Z h a1 "com/example/weighted_worlds/weightedworlds/Place" "made" "I" (.int p5) ∧ Fld Z h a1 "com/example/weighted_worlds/weightedworlds/Place" "turns" "I" u7) := by
  refine own_body pn_2 ?_
  intro p e s m below meth c T0 hZ hx hby hml hown hnm hret hlk X0 e0 F hF
  have N0 := Fr.nil n0
  have K0 := Keep.refl h0 [a1]
  refine own_cast (g' := (mkF m 0 #[.val (.ref a1), .val .null, .val (.int p2), .val (.int p3), .val (.int p4), .val (.int p5)] [])) (by first | rfl | simp [entryFrame, mkF, argsToLocals, Value.category]) ?_
  refine own_st (T' := T0) (g' := (mkF m 1 #[.val (.ref a1), .val .null, .val (.int p2), .val (.int p3), .val (.int p4), .val (.int p5)] [(.ref a1)])) (fun t9 k9 => XS.aloadN X0.here hx rfl (hb hby d2_0) rfl rfl k9) ?_
  obtain ⟨T1, X1, e1, st1⟩ := initO X0 hx hZ hown (hw _ (List.mem_of_getElem? (i := 9) rfl)) (hw _ (List.mem_of_getElem? (i := 10) rfl)) (hw _ (List.mem_of_getElem? (i := 11) rfl)) e0 (g := (mkF m 1 #[.val (.ref a1), .val .null, .val (.int p2), .val (.int p3), .val (.int p4), .val (.int p5)] [(.ref a1)])) rfl (by rw [hml]; rfl) rfl (hb hby d2_1) (by decide) (W := 0) (by show 2 * 0 + _ ≤ _; exact Nat.le_of_eq rfl) (by decide)
  refine own_st (T' := T1) (g' := (mkF m 4 #[.val (.ref a1), .val .null, .val (.int p2), .val (.int p3), .val (.int p4), .val (.int p5)] [])) (fun t9 k9 => st1 t9 k9) ?_
  refine own_st (T' := T1) (g' := (mkF m 5 #[.val (.ref a1), .val .null, .val (.int p2), .val (.int p3), .val (.int p4), .val (.int p5)] [(.ref a1)])) (fun t9 k9 => XS.aloadN X1.here hx rfl (hb hby d2_4) rfl rfl k9) ?_
  refine own_st (T' := T1) (g' := (mkF m 6 #[.val (.ref a1), .val .null, .val (.int p2), .val (.int p3), .val (.int p4), .val (.int p5)] [.null, (.ref a1)])) (fun t9 k9 => XS.aloadN X1.here hx rfl (hb hby d2_5) rfl rfl k9) ?_
  obtain ⟨T2, h2, X2, e2, W2, st2⟩ := putF X1 hx hZ hown (host := "") (Or.inl (hw _ (List.mem_of_getElem? (i := 12) rfl))) Via.refl e1 U_at E1 (Or.inr ⟨(hw _ (List.mem_of_getElem? (i := 13) rfl)), rfl, hnm⟩) (hw _ (List.mem_of_getElem? (i := 5) rfl)) (ty := (.object "com/example/weighted_worlds/weightedworlds/Place")) (by decide) rfl rfl (g := (mkF m 6 #[.val (.ref a1), .val .null, .val (.int p2), .val (.int p3), .val (.int p4), .val (.int p5)] [.null, (.ref a1)])) rfl rfl (hb hby d2_6)
  have Fw2 := U_at.same W2
  have E1_3 := E1.wr W2
  have U_depth_4 := U_depth.other W2 (Or.inr (slot_ne (Or.inr (hw _ (List.mem_of_getElem? (i := 15) rfl))) (Or.inr (hw _ (List.mem_of_getElem? (i := 13) rfl))) (by decide) (t := .int) (t' := (.object "com/example/weighted_worlds/weightedworlds/Place")) (by decide) (by decide)))
  have U_jump_5 := U_jump.other W2 (Or.inr (slot_ne (Or.inr (hw _ (List.mem_of_getElem? (i := 17) rfl))) (Or.inr (hw _ (List.mem_of_getElem? (i := 13) rfl))) (by decide) (t := (.object "com/example/weighted_worlds/weightedworlds/Place")) (t' := (.object "com/example/weighted_worlds/weightedworlds/Place")) (by decide) (by decide)))
  have U_rank_6 := U_rank.other W2 (Or.inr (slot_ne (Or.inr (hw _ (List.mem_of_getElem? (i := 19) rfl))) (Or.inr (hw _ (List.mem_of_getElem? (i := 13) rfl))) (by decide) (t := .int) (t' := (.object "com/example/weighted_worlds/weightedworlds/Place")) (by decide) (by decide)))
  have U_turn_7 := U_turn.other W2 (Or.inr (slot_ne (Or.inr (hw _ (List.mem_of_getElem? (i := 21) rfl))) (Or.inr (hw _ (List.mem_of_getElem? (i := 13) rfl))) (by decide) (t := .int) (t' := (.object "com/example/weighted_worlds/weightedworlds/Place")) (by decide) (by decide)))
  have U_conjunct_8 := U_conjunct.other W2 (Or.inr (slot_ne (Or.inr (hw _ (List.mem_of_getElem? (i := 23) rfl))) (Or.inr (hw _ (List.mem_of_getElem? (i := 13) rfl))) (by decide) (t := .int) (t' := (.object "com/example/weighted_worlds/weightedworlds/Place")) (by decide) (by decide)))
  have U_made_9 := U_made.other W2 (Or.inr (slot_ne (Or.inr (hw _ (List.mem_of_getElem? (i := 25) rfl))) (Or.inr (hw _ (List.mem_of_getElem? (i := 13) rfl))) (by decide) (t := .int) (t' := (.object "com/example/weighted_worlds/weightedworlds/Place")) (by decide) (by decide)))
  have U_turns_10 := U_turns.other W2 (Or.inr (slot_ne (Or.inl (hw _ (List.mem_of_getElem? (i := 69) rfl))) (Or.inr (hw _ (List.mem_of_getElem? (i := 13) rfl))) (by decide) (t := .int) (t' := (.object "com/example/weighted_worlds/weightedworlds/Place")) (by decide) (by decide)))
  have K2 := K0.wr W2 (Or.inl (by simp))
  have N2 := Fr.snoc X2 N0 g_a1
  have Z2 : n0 ≤ h2.size := by rw [W2.size]; exact Z0
  refine own_st (T' := T2) (g' := (mkF m 9 #[.val (.ref a1), .val .null, .val (.int p2), .val (.int p3), .val (.int p4), .val (.int p5)] [])) (fun t9 k9 => st2 t9 k9) ?_
  refine own_st (T' := T2) (g' := (mkF m 10 #[.val (.ref a1), .val .null, .val (.int p2), .val (.int p3), .val (.int p4), .val (.int p5)] [(.ref a1)])) (fun t9 k9 => XS.aloadN X2.here hx rfl (hb hby d2_9) rfl rfl k9) ?_
  refine own_st (T' := T2) (g' := (mkF m 11 #[.val (.ref a1), .val .null, .val (.int p2), .val (.int p3), .val (.int p4), .val (.int p5)] [.null, (.ref a1)])) (fun t9 k9 => XS.aloadN X2.here hx rfl (hb hby d2_10) rfl rfl k9) ?_
  refine own_st (T' := T2) (g' := (mkF m 14 #[.val (.ref a1), .val .null, .val (.int p2), .val (.int p3), .val (.int p4), .val (.int p5)] [(.ref a1)])) (fun t9 k9 => XS.ifnonnullNo X2.here hx rfl (hb hby d2_11) rfl k9) ?_
  refine own_st (T' := T2) (g' := (mkF m 15 #[.val (.ref a1), .val .null, .val (.int p2), .val (.int p3), .val (.int p4), .val (.int p5)] [(.int (0 : Int32)), (.ref a1)])) (fun t9 k9 => XS.iconst X2.here hx rfl (hb hby d2_14) k9) ?_
  refine own_st (T' := T2) (g' := (mkF m 24 #[.val (.ref a1), .val .null, .val (.int p2), .val (.int p3), .val (.int p4), .val (.int p5)] [(.int (0 : Int32)), (.ref a1)])) (fun t9 k9 => XS.goto X2.here hx rfl (pc0 := 15) (pc' := 24) rfl (hb hby d2_15) (by decide) (by decide) k9) ?_
  obtain ⟨T11, h11, X11, e11, W11, st11⟩ := putF X2 hx hZ hown (host := "") (Or.inl (hw _ (List.mem_of_getElem? (i := 14) rfl))) Via.refl e2 U_depth_4 E1_3 (Or.inr ⟨(hw _ (List.mem_of_getElem? (i := 15) rfl)), rfl, hnm⟩) (hw _ (List.mem_of_getElem? (i := 5) rfl)) (ty := .int) (by decide) rfl rfl (g := (mkF m 24 #[.val (.ref a1), .val .null, .val (.int p2), .val (.int p3), .val (.int p4), .val (.int p5)] [(.int (0 : Int32)), (.ref a1)])) rfl rfl (hb hby d2_24)
  have Fw11 := U_depth_4.same W11
  have E1_12 := E1_3.wr W11
  have Fw2_13 := Fw2.other W11 (Or.inr (slot_ne (Or.inr (hw _ (List.mem_of_getElem? (i := 13) rfl))) (Or.inr (hw _ (List.mem_of_getElem? (i := 15) rfl))) (by decide) (t := (.object "com/example/weighted_worlds/weightedworlds/Place")) (t' := .int) (by decide) (by decide)))
  have U_jump_14 := U_jump_5.other W11 (Or.inr (slot_ne (Or.inr (hw _ (List.mem_of_getElem? (i := 17) rfl))) (Or.inr (hw _ (List.mem_of_getElem? (i := 15) rfl))) (by decide) (t := (.object "com/example/weighted_worlds/weightedworlds/Place")) (t' := .int) (by decide) (by decide)))
  have U_rank_15 := U_rank_6.other W11 (Or.inr (slot_ne (Or.inr (hw _ (List.mem_of_getElem? (i := 19) rfl))) (Or.inr (hw _ (List.mem_of_getElem? (i := 15) rfl))) (by decide) (t := .int) (t' := .int) (by decide) (by decide)))
  have U_turn_16 := U_turn_7.other W11 (Or.inr (slot_ne (Or.inr (hw _ (List.mem_of_getElem? (i := 21) rfl))) (Or.inr (hw _ (List.mem_of_getElem? (i := 15) rfl))) (by decide) (t := .int) (t' := .int) (by decide) (by decide)))
  have U_conjunct_17 := U_conjunct_8.other W11 (Or.inr (slot_ne (Or.inr (hw _ (List.mem_of_getElem? (i := 23) rfl))) (Or.inr (hw _ (List.mem_of_getElem? (i := 15) rfl))) (by decide) (t := .int) (t' := .int) (by decide) (by decide)))
  have U_made_18 := U_made_9.other W11 (Or.inr (slot_ne (Or.inr (hw _ (List.mem_of_getElem? (i := 25) rfl))) (Or.inr (hw _ (List.mem_of_getElem? (i := 15) rfl))) (by decide) (t := .int) (t' := .int) (by decide) (by decide)))
  have U_turns_19 := U_turns_10.other W11 (Or.inr (slot_ne (Or.inl (hw _ (List.mem_of_getElem? (i := 69) rfl))) (Or.inr (hw _ (List.mem_of_getElem? (i := 15) rfl))) (by decide) (t := .int) (t' := .int) (by decide) (by decide)))
  have K11 := K2.wr W11 (Or.inl (by simp))
  have N11 := Fr.snoc X11 N2 g_a1
  have Z11 : n0 ≤ h11.size := by rw [W11.size]; exact Z2
  refine own_st (T' := T11) (g' := (mkF m 27 #[.val (.ref a1), .val .null, .val (.int p2), .val (.int p3), .val (.int p4), .val (.int p5)] [])) (fun t9 k9 => st11 t9 k9) ?_
  refine own_st (T' := T11) (g' := (mkF m 28 #[.val (.ref a1), .val .null, .val (.int p2), .val (.int p3), .val (.int p4), .val (.int p5)] [(.ref a1)])) (fun t9 k9 => XS.aloadN X11.here hx rfl (hb hby d2_27) rfl rfl k9) ?_
  refine own_st (T' := T11) (g' := (mkF m 29 #[.val (.ref a1), .val .null, .val (.int p2), .val (.int p3), .val (.int p4), .val (.int p5)] [.null, (.ref a1)])) (fun t9 k9 => XS.aloadN X11.here hx rfl (hb hby d2_28) rfl rfl k9) ?_
  refine own_st (T' := T11) (g' := (mkF m 32 #[.val (.ref a1), .val .null, .val (.int p2), .val (.int p3), .val (.int p4), .val (.int p5)] [(.ref a1)])) (fun t9 k9 => XS.ifnonnullNo X11.here hx rfl (hb hby d2_29) rfl k9) ?_
  refine own_st (T' := T11) (g' := (mkF m 33 #[.val (.ref a1), .val .null, .val (.int p2), .val (.int p3), .val (.int p4), .val (.int p5)] [(.ref a1), (.ref a1)])) (fun t9 k9 => XS.aloadN X11.here hx rfl (hb hby d2_32) rfl rfl k9) ?_
  refine own_st (T' := T11) (g' := (mkF m 40 #[.val (.ref a1), .val .null, .val (.int p2), .val (.int p3), .val (.int p4), .val (.int p5)] [(.ref a1), (.ref a1)])) (fun t9 k9 => XS.goto X11.here hx rfl (pc0 := 33) (pc' := 40) rfl (hb hby d2_33) (by decide) (by decide) k9) ?_
  obtain ⟨T20, h20, X20, e20, W20, st20⟩ := putF X11 hx hZ hown (host := "") (Or.inl (hw _ (List.mem_of_getElem? (i := 16) rfl))) Via.refl e11 U_jump_14 E1_12 (Or.inr ⟨(hw _ (List.mem_of_getElem? (i := 17) rfl)), rfl, hnm⟩) (hw _ (List.mem_of_getElem? (i := 5) rfl)) (ty := (.object "com/example/weighted_worlds/weightedworlds/Place")) (by decide) rfl rfl (g := (mkF m 40 #[.val (.ref a1), .val .null, .val (.int p2), .val (.int p3), .val (.int p4), .val (.int p5)] [(.ref a1), (.ref a1)])) rfl rfl (hb hby d2_40)
  have Fw20 := U_jump_14.same W20
  have E1_21 := E1_12.wr W20
  have Fw2_22 := Fw2_13.other W20 (Or.inr (slot_ne (Or.inr (hw _ (List.mem_of_getElem? (i := 13) rfl))) (Or.inr (hw _ (List.mem_of_getElem? (i := 17) rfl))) (by decide) (t := (.object "com/example/weighted_worlds/weightedworlds/Place")) (t' := (.object "com/example/weighted_worlds/weightedworlds/Place")) (by decide) (by decide)))
  have Fw11_23 := Fw11.other W20 (Or.inr (slot_ne (Or.inr (hw _ (List.mem_of_getElem? (i := 15) rfl))) (Or.inr (hw _ (List.mem_of_getElem? (i := 17) rfl))) (by decide) (t := .int) (t' := (.object "com/example/weighted_worlds/weightedworlds/Place")) (by decide) (by decide)))
  have U_rank_24 := U_rank_15.other W20 (Or.inr (slot_ne (Or.inr (hw _ (List.mem_of_getElem? (i := 19) rfl))) (Or.inr (hw _ (List.mem_of_getElem? (i := 17) rfl))) (by decide) (t := .int) (t' := (.object "com/example/weighted_worlds/weightedworlds/Place")) (by decide) (by decide)))
  have U_turn_25 := U_turn_16.other W20 (Or.inr (slot_ne (Or.inr (hw _ (List.mem_of_getElem? (i := 21) rfl))) (Or.inr (hw _ (List.mem_of_getElem? (i := 17) rfl))) (by decide) (t := .int) (t' := (.object "com/example/weighted_worlds/weightedworlds/Place")) (by decide) (by decide)))
  have U_conjunct_26 := U_conjunct_17.other W20 (Or.inr (slot_ne (Or.inr (hw _ (List.mem_of_getElem? (i := 23) rfl))) (Or.inr (hw _ (List.mem_of_getElem? (i := 17) rfl))) (by decide) (t := .int) (t' := (.object "com/example/weighted_worlds/weightedworlds/Place")) (by decide) (by decide)))
  have U_made_27 := U_made_18.other W20 (Or.inr (slot_ne (Or.inr (hw _ (List.mem_of_getElem? (i := 25) rfl))) (Or.inr (hw _ (List.mem_of_getElem? (i := 17) rfl))) (by decide) (t := .int) (t' := (.object "com/example/weighted_worlds/weightedworlds/Place")) (by decide) (by decide)))
  have U_turns_28 := U_turns_19.other W20 (Or.inr (slot_ne (Or.inl (hw _ (List.mem_of_getElem? (i := 69) rfl))) (Or.inr (hw _ (List.mem_of_getElem? (i := 17) rfl))) (by decide) (t := .int) (t' := (.object "com/example/weighted_worlds/weightedworlds/Place")) (by decide) (by decide)))
  have K20 := K11.wr W20 (Or.inl (by simp))
  have N20 := Fr.snoc X20 N11 g_a1
  have Z20 : n0 ≤ h20.size := by rw [W20.size]; exact Z11
  refine own_st (T' := T20) (g' := (mkF m 43 #[.val (.ref a1), .val .null, .val (.int p2), .val (.int p3), .val (.int p4), .val (.int p5)] [])) (fun t9 k9 => st20 t9 k9) ?_
  refine own_st (T' := T20) (g' := (mkF m 44 #[.val (.ref a1), .val .null, .val (.int p2), .val (.int p3), .val (.int p4), .val (.int p5)] [(.ref a1)])) (fun t9 k9 => XS.aloadN X20.here hx rfl (hb hby d2_43) rfl rfl k9) ?_
  refine own_st (T' := T20) (g' := (mkF m 45 #[.val (.ref a1), .val .null, .val (.int p2), .val (.int p3), .val (.int p4), .val (.int p5)] [(.int p2), (.ref a1)])) (fun t9 k9 => XS.iloadN X20.here hx rfl (hb hby d2_44) rfl k9) ?_
  obtain ⟨T29, h29, X29, e29, W29, st29⟩ := putF X20 hx hZ hown (host := "") (Or.inl (hw _ (List.mem_of_getElem? (i := 18) rfl))) Via.refl e20 U_rank_24 E1_21 (Or.inr ⟨(hw _ (List.mem_of_getElem? (i := 19) rfl)), rfl, hnm⟩) (hw _ (List.mem_of_getElem? (i := 5) rfl)) (ty := .int) (by decide) rfl rfl (g := (mkF m 45 #[.val (.ref a1), .val .null, .val (.int p2), .val (.int p3), .val (.int p4), .val (.int p5)] [(.int p2), (.ref a1)])) rfl rfl (hb hby d2_45)
  have Fw29 := U_rank_24.same W29
  have E1_30 := E1_21.wr W29
  have Fw2_31 := Fw2_22.other W29 (Or.inr (slot_ne (Or.inr (hw _ (List.mem_of_getElem? (i := 13) rfl))) (Or.inr (hw _ (List.mem_of_getElem? (i := 19) rfl))) (by decide) (t := (.object "com/example/weighted_worlds/weightedworlds/Place")) (t' := .int) (by decide) (by decide)))
  have Fw11_32 := Fw11_23.other W29 (Or.inr (slot_ne (Or.inr (hw _ (List.mem_of_getElem? (i := 15) rfl))) (Or.inr (hw _ (List.mem_of_getElem? (i := 19) rfl))) (by decide) (t := .int) (t' := .int) (by decide) (by decide)))
  have Fw20_33 := Fw20.other W29 (Or.inr (slot_ne (Or.inr (hw _ (List.mem_of_getElem? (i := 17) rfl))) (Or.inr (hw _ (List.mem_of_getElem? (i := 19) rfl))) (by decide) (t := (.object "com/example/weighted_worlds/weightedworlds/Place")) (t' := .int) (by decide) (by decide)))
  have U_turn_34 := U_turn_25.other W29 (Or.inr (slot_ne (Or.inr (hw _ (List.mem_of_getElem? (i := 21) rfl))) (Or.inr (hw _ (List.mem_of_getElem? (i := 19) rfl))) (by decide) (t := .int) (t' := .int) (by decide) (by decide)))
  have U_conjunct_35 := U_conjunct_26.other W29 (Or.inr (slot_ne (Or.inr (hw _ (List.mem_of_getElem? (i := 23) rfl))) (Or.inr (hw _ (List.mem_of_getElem? (i := 19) rfl))) (by decide) (t := .int) (t' := .int) (by decide) (by decide)))
  have U_made_36 := U_made_27.other W29 (Or.inr (slot_ne (Or.inr (hw _ (List.mem_of_getElem? (i := 25) rfl))) (Or.inr (hw _ (List.mem_of_getElem? (i := 19) rfl))) (by decide) (t := .int) (t' := .int) (by decide) (by decide)))
  have U_turns_37 := U_turns_28.other W29 (Or.inr (slot_ne (Or.inl (hw _ (List.mem_of_getElem? (i := 69) rfl))) (Or.inr (hw _ (List.mem_of_getElem? (i := 19) rfl))) (by decide) (t := .int) (t' := .int) (by decide) (by decide)))
  have K29 := K20.wr W29 (Or.inl (by simp))
  have N29 := Fr.snoc X29 N20 g_a1
  have Z29 : n0 ≤ h29.size := by rw [W29.size]; exact Z20
  refine own_st (T' := T29) (g' := (mkF m 48 #[.val (.ref a1), .val .null, .val (.int p2), .val (.int p3), .val (.int p4), .val (.int p5)] [])) (fun t9 k9 => st29 t9 k9) ?_
  refine own_st (T' := T29) (g' := (mkF m 49 #[.val (.ref a1), .val .null, .val (.int p2), .val (.int p3), .val (.int p4), .val (.int p5)] [(.ref a1)])) (fun t9 k9 => XS.aloadN X29.here hx rfl (hb hby d2_48) rfl rfl k9) ?_
  refine own_st (T' := T29) (g' := (mkF m 50 #[.val (.ref a1), .val .null, .val (.int p2), .val (.int p3), .val (.int p4), .val (.int p5)] [(.int p3), (.ref a1)])) (fun t9 k9 => XS.iloadN X29.here hx rfl (hb hby d2_49) rfl k9) ?_
  obtain ⟨T38, h38, X38, e38, W38, st38⟩ := putF X29 hx hZ hown (host := "") (Or.inl (hw _ (List.mem_of_getElem? (i := 20) rfl))) Via.refl e29 U_turn_34 E1_30 (Or.inr ⟨(hw _ (List.mem_of_getElem? (i := 21) rfl)), rfl, hnm⟩) (hw _ (List.mem_of_getElem? (i := 5) rfl)) (ty := .int) (by decide) rfl rfl (g := (mkF m 50 #[.val (.ref a1), .val .null, .val (.int p2), .val (.int p3), .val (.int p4), .val (.int p5)] [(.int p3), (.ref a1)])) rfl rfl (hb hby d2_50)
  have Fw38 := U_turn_34.same W38
  have E1_39 := E1_30.wr W38
  have Fw2_40 := Fw2_31.other W38 (Or.inr (slot_ne (Or.inr (hw _ (List.mem_of_getElem? (i := 13) rfl))) (Or.inr (hw _ (List.mem_of_getElem? (i := 21) rfl))) (by decide) (t := (.object "com/example/weighted_worlds/weightedworlds/Place")) (t' := .int) (by decide) (by decide)))
  have Fw11_41 := Fw11_32.other W38 (Or.inr (slot_ne (Or.inr (hw _ (List.mem_of_getElem? (i := 15) rfl))) (Or.inr (hw _ (List.mem_of_getElem? (i := 21) rfl))) (by decide) (t := .int) (t' := .int) (by decide) (by decide)))
  have Fw20_42 := Fw20_33.other W38 (Or.inr (slot_ne (Or.inr (hw _ (List.mem_of_getElem? (i := 17) rfl))) (Or.inr (hw _ (List.mem_of_getElem? (i := 21) rfl))) (by decide) (t := (.object "com/example/weighted_worlds/weightedworlds/Place")) (t' := .int) (by decide) (by decide)))
  have Fw29_43 := Fw29.other W38 (Or.inr (slot_ne (Or.inr (hw _ (List.mem_of_getElem? (i := 19) rfl))) (Or.inr (hw _ (List.mem_of_getElem? (i := 21) rfl))) (by decide) (t := .int) (t' := .int) (by decide) (by decide)))
  have U_conjunct_44 := U_conjunct_35.other W38 (Or.inr (slot_ne (Or.inr (hw _ (List.mem_of_getElem? (i := 23) rfl))) (Or.inr (hw _ (List.mem_of_getElem? (i := 21) rfl))) (by decide) (t := .int) (t' := .int) (by decide) (by decide)))
  have U_made_45 := U_made_36.other W38 (Or.inr (slot_ne (Or.inr (hw _ (List.mem_of_getElem? (i := 25) rfl))) (Or.inr (hw _ (List.mem_of_getElem? (i := 21) rfl))) (by decide) (t := .int) (t' := .int) (by decide) (by decide)))
  have U_turns_46 := U_turns_37.other W38 (Or.inr (slot_ne (Or.inl (hw _ (List.mem_of_getElem? (i := 69) rfl))) (Or.inr (hw _ (List.mem_of_getElem? (i := 21) rfl))) (by decide) (t := .int) (t' := .int) (by decide) (by decide)))
  have K38 := K29.wr W38 (Or.inl (by simp))
  have N38 := Fr.snoc X38 N29 g_a1
  have Z38 : n0 ≤ h38.size := by rw [W38.size]; exact Z29
  refine own_st (T' := T38) (g' := (mkF m 53 #[.val (.ref a1), .val .null, .val (.int p2), .val (.int p3), .val (.int p4), .val (.int p5)] [])) (fun t9 k9 => st38 t9 k9) ?_
  refine own_st (T' := T38) (g' := (mkF m 54 #[.val (.ref a1), .val .null, .val (.int p2), .val (.int p3), .val (.int p4), .val (.int p5)] [(.ref a1)])) (fun t9 k9 => XS.aloadN X38.here hx rfl (hb hby d2_53) rfl rfl k9) ?_
  refine own_st (T' := T38) (g' := (mkF m 56 #[.val (.ref a1), .val .null, .val (.int p2), .val (.int p3), .val (.int p4), .val (.int p5)] [(.int p4), (.ref a1)])) (fun t9 k9 => XS.iload X38.here hx rfl (hb hby d2_54) rfl k9) ?_
  obtain ⟨T47, h47, X47, e47, W47, st47⟩ := putF X38 hx hZ hown (host := "") (Or.inl (hw _ (List.mem_of_getElem? (i := 22) rfl))) Via.refl e38 U_conjunct_44 E1_39 (Or.inr ⟨(hw _ (List.mem_of_getElem? (i := 23) rfl)), rfl, hnm⟩) (hw _ (List.mem_of_getElem? (i := 5) rfl)) (ty := .int) (by decide) rfl rfl (g := (mkF m 56 #[.val (.ref a1), .val .null, .val (.int p2), .val (.int p3), .val (.int p4), .val (.int p5)] [(.int p4), (.ref a1)])) rfl rfl (hb hby d2_56)
  have Fw47 := U_conjunct_44.same W47
  have E1_48 := E1_39.wr W47
  have Fw2_49 := Fw2_40.other W47 (Or.inr (slot_ne (Or.inr (hw _ (List.mem_of_getElem? (i := 13) rfl))) (Or.inr (hw _ (List.mem_of_getElem? (i := 23) rfl))) (by decide) (t := (.object "com/example/weighted_worlds/weightedworlds/Place")) (t' := .int) (by decide) (by decide)))
  have Fw11_50 := Fw11_41.other W47 (Or.inr (slot_ne (Or.inr (hw _ (List.mem_of_getElem? (i := 15) rfl))) (Or.inr (hw _ (List.mem_of_getElem? (i := 23) rfl))) (by decide) (t := .int) (t' := .int) (by decide) (by decide)))
  have Fw20_51 := Fw20_42.other W47 (Or.inr (slot_ne (Or.inr (hw _ (List.mem_of_getElem? (i := 17) rfl))) (Or.inr (hw _ (List.mem_of_getElem? (i := 23) rfl))) (by decide) (t := (.object "com/example/weighted_worlds/weightedworlds/Place")) (t' := .int) (by decide) (by decide)))
  have Fw29_52 := Fw29_43.other W47 (Or.inr (slot_ne (Or.inr (hw _ (List.mem_of_getElem? (i := 19) rfl))) (Or.inr (hw _ (List.mem_of_getElem? (i := 23) rfl))) (by decide) (t := .int) (t' := .int) (by decide) (by decide)))
  have Fw38_53 := Fw38.other W47 (Or.inr (slot_ne (Or.inr (hw _ (List.mem_of_getElem? (i := 21) rfl))) (Or.inr (hw _ (List.mem_of_getElem? (i := 23) rfl))) (by decide) (t := .int) (t' := .int) (by decide) (by decide)))
  have U_made_54 := U_made_45.other W47 (Or.inr (slot_ne (Or.inr (hw _ (List.mem_of_getElem? (i := 25) rfl))) (Or.inr (hw _ (List.mem_of_getElem? (i := 23) rfl))) (by decide) (t := .int) (t' := .int) (by decide) (by decide)))
  have U_turns_55 := U_turns_46.other W47 (Or.inr (slot_ne (Or.inl (hw _ (List.mem_of_getElem? (i := 69) rfl))) (Or.inr (hw _ (List.mem_of_getElem? (i := 23) rfl))) (by decide) (t := .int) (t' := .int) (by decide) (by decide)))
  have K47 := K38.wr W47 (Or.inl (by simp))
  have N47 := Fr.snoc X47 N38 g_a1
  have Z47 : n0 ≤ h47.size := by rw [W47.size]; exact Z38
  refine own_st (T' := T47) (g' := (mkF m 59 #[.val (.ref a1), .val .null, .val (.int p2), .val (.int p3), .val (.int p4), .val (.int p5)] [])) (fun t9 k9 => st47 t9 k9) ?_
  refine own_st (T' := T47) (g' := (mkF m 60 #[.val (.ref a1), .val .null, .val (.int p2), .val (.int p3), .val (.int p4), .val (.int p5)] [(.ref a1)])) (fun t9 k9 => XS.aloadN X47.here hx rfl (hb hby d2_59) rfl rfl k9) ?_
  refine own_st (T' := T47) (g' := (mkF m 62 #[.val (.ref a1), .val .null, .val (.int p2), .val (.int p3), .val (.int p4), .val (.int p5)] [(.int p5), (.ref a1)])) (fun t9 k9 => XS.iload X47.here hx rfl (hb hby d2_60) rfl k9) ?_
  obtain ⟨T56, h56, X56, e56, W56, st56⟩ := putF X47 hx hZ hown (host := "") (Or.inl (hw _ (List.mem_of_getElem? (i := 24) rfl))) Via.refl e47 U_made_54 E1_48 (Or.inr ⟨(hw _ (List.mem_of_getElem? (i := 25) rfl)), rfl, hnm⟩) (hw _ (List.mem_of_getElem? (i := 5) rfl)) (ty := .int) (by decide) rfl rfl (g := (mkF m 62 #[.val (.ref a1), .val .null, .val (.int p2), .val (.int p3), .val (.int p4), .val (.int p5)] [(.int p5), (.ref a1)])) rfl rfl (hb hby d2_62)
  have Fw56 := U_made_54.same W56
  have E1_57 := E1_48.wr W56
  have Fw2_58 := Fw2_49.other W56 (Or.inr (slot_ne (Or.inr (hw _ (List.mem_of_getElem? (i := 13) rfl))) (Or.inr (hw _ (List.mem_of_getElem? (i := 25) rfl))) (by decide) (t := (.object "com/example/weighted_worlds/weightedworlds/Place")) (t' := .int) (by decide) (by decide)))
  have Fw11_59 := Fw11_50.other W56 (Or.inr (slot_ne (Or.inr (hw _ (List.mem_of_getElem? (i := 15) rfl))) (Or.inr (hw _ (List.mem_of_getElem? (i := 25) rfl))) (by decide) (t := .int) (t' := .int) (by decide) (by decide)))
  have Fw20_60 := Fw20_51.other W56 (Or.inr (slot_ne (Or.inr (hw _ (List.mem_of_getElem? (i := 17) rfl))) (Or.inr (hw _ (List.mem_of_getElem? (i := 25) rfl))) (by decide) (t := (.object "com/example/weighted_worlds/weightedworlds/Place")) (t' := .int) (by decide) (by decide)))
  have Fw29_61 := Fw29_52.other W56 (Or.inr (slot_ne (Or.inr (hw _ (List.mem_of_getElem? (i := 19) rfl))) (Or.inr (hw _ (List.mem_of_getElem? (i := 25) rfl))) (by decide) (t := .int) (t' := .int) (by decide) (by decide)))
  have Fw38_62 := Fw38_53.other W56 (Or.inr (slot_ne (Or.inr (hw _ (List.mem_of_getElem? (i := 21) rfl))) (Or.inr (hw _ (List.mem_of_getElem? (i := 25) rfl))) (by decide) (t := .int) (t' := .int) (by decide) (by decide)))
  have Fw47_63 := Fw47.other W56 (Or.inr (slot_ne (Or.inr (hw _ (List.mem_of_getElem? (i := 23) rfl))) (Or.inr (hw _ (List.mem_of_getElem? (i := 25) rfl))) (by decide) (t := .int) (t' := .int) (by decide) (by decide)))
  have U_turns_64 := U_turns_55.other W56 (Or.inr (slot_ne (Or.inl (hw _ (List.mem_of_getElem? (i := 69) rfl))) (Or.inr (hw _ (List.mem_of_getElem? (i := 25) rfl))) (by decide) (t := .int) (t' := .int) (by decide) (by decide)))
  have K56 := K47.wr W56 (Or.inl (by simp))
  have N56 := Fr.snoc X56 N47 g_a1
  have Z56 : n0 ≤ h56.size := by rw [W56.size]; exact Z47
  refine own_st (T' := T56) (g' := (mkF m 65 #[.val (.ref a1), .val .null, .val (.int p2), .val (.int p3), .val (.int p4), .val (.int p5)] [])) (fun t9 k9 => st56 t9 k9) ?_
  refine own_ret (v := none) hF X56 (fun _ => rfl) hlk (fun fs hr => X56.returnOut hx hret (hb hby d2_65) hr) ?_ (by decide) (by decide)
  try rw [e56]
  exact ⟨rfl, N56, K56, E1_57, Fw2_58, Fw11_59, Fw20_60, Fw29_61, Fw38_62, Fw47_63, Fw56, U_turns_64⟩
set_option maxRecDepth 65536 in
set_option maxHeartbeats 40000000 in
theorem rmPc (l : Launch) (Z : State) (a0 : Array Value) (hw : ∀ d ∈ tables_1, d.before a0 Z = true) (a1 a2 f1 f2 : Addr) (dp df dg : Int32) (p2 p3 p4 p5 : Int32) (u0 u1 u2 u3 u4 u5 u6 u7 : Value) (h0 : Heap) (n0 : Nat) (Z0 : n0 ≤ h0.size) (E1 : Exa Z h0 a1 "com/example/weighted_worlds/weightedworlds/Place") (U_at : Fld Z h0 a1 "com/example/weighted_worlds/weightedworlds/Place" "at" "Lcom/example/weighted_worlds/weightedworlds/Place;" u0) (U_depth : Fld Z h0 a1 "com/example/weighted_worlds/weightedworlds/Place" "depth" "I" u1) (U_jump : Fld Z h0 a1 "com/example/weighted_worlds/weightedworlds/Place" "jump" "Lcom/example/weighted_worlds/weightedworlds/Place;" u2) (U_rank : Fld Z h0 a1 "com/example/weighted_worlds/weightedworlds/Place" "rank" "I" u3) (U_turn : Fld Z h0 a1 "com/example/weighted_worlds/weightedworlds/Place" "turn" "I" u4) (U_conjunct : Fld Z h0 a1 "com/example/weighted_worlds/weightedworlds/Place" "conjunct" "I" u5) (U_made : Fld Z h0 a1 "com/example/weighted_worlds/weightedworlds/Place" "made" "I" u6) (U_turns : Fld Z h0 a1 "com/example/weighted_worlds/weightedworlds/Place" "turns" "I" u7) (g_a1 : n0 ≤ a1) (J1 : Fld Z h0 a2 "com/example/weighted_worlds/weightedworlds/Place" "depth" "I" (.int dp)) (J2 : Fld Z h0 a2 "com/example/weighted_worlds/weightedworlds/Place" "jump" "Lcom/example/weighted_worlds/weightedworlds/Place;" (.ref f1)) (J3 : Fld Z h0 f1 "com/example/weighted_worlds/weightedworlds/Place" "depth" "I" (.int df)) (J4 : Fld Z h0 f1 "com/example/weighted_worlds/weightedworlds/Place" "jump" "Lcom/example/weighted_worlds/weightedworlds/Place;" (.ref f2)) (J5 : Fld Z h0 f2 "com/example/weighted_worlds/weightedworlds/Place" "depth" "I" (.int dg)) (n2 : a2 ≠ a1) (n3 : f1 ≠ a1) (n4 : f2 ≠ a1) :
    own_Met l Z (⟨"com/example/weighted_worlds/weightedworlds/Place", "<init>", "(Lcom/example/weighted_worlds/weightedworlds/Place;IIII)V"⟩ : MethodName) prog_15_method_1_code 6 none ({ frames := 1, cells := 0, slots := 0, locals := 15 } : Room) #[(.ref a1), (.ref a2), (.int p2), (.int p3), (.int p4), (.int p5)] h0 (fun v h L => ∃ r, v = none ∧ Fr n0 L ∧ Keep h0 h [a1] ∧ Exa Z h a1 "com/example/weighted_worlds/weightedworlds/Place" ∧ Fld Z h a1 "com/example/weighted_worlds/weightedworlds/Place" "at" "Lcom/example/weighted_worlds/weightedworlds/Place;" (.ref a2) ∧ Fld Z h a1 "com/example/weighted_worlds/weightedworlds/Place" "depth" "I" (.int (dp + (1 : Int32))) ∧ Fld Z h a1 "com/example/weighted_worlds/weightedworlds/Place" "jump" "Lcom/example/weighted_worlds/weightedworlds/Place;" (.ref r) ∧ Fld Z h a1 "com/example/weighted_worlds/weightedworlds/Place" "rank" "I" (.int p2) ∧ Fld Z h a1 "com/example/weighted_worlds/weightedworlds/Place" "turn" "I" (.int p3) ∧ Fld Z h a1 "com/example/weighted_worlds/weightedworlds/Place" "conjunct" "I" (.int p4) ∧ Fld Z h a1 "com/example/weighted_worlds/weightedworlds/Place" "made" "I" (.int p5) ∧ Fld Z h a1 "com/example/weighted_worlds/weightedworlds/Place" "turns" "I" u7 ∧ ((dp - df = df - dg ∧ r = f2) ∨ (¬ dp - df = df - dg ∧ r = a2))) := by
  refine own_body pn_2 ?_
  intro p e s m below meth c T0 hZ hx hby hml hown hnm hret hlk X0 e0 F hF
  have N0 := Fr.nil n0
  have K0 := Keep.refl h0 [a1]
  refine own_cast (g' := (mkF m 0 #[.val (.ref a1), .val (.ref a2), .val (.int p2), .val (.int p3), .val (.int p4), .val (.int p5)] [])) (by first | rfl | simp [entryFrame, mkF, argsToLocals, Value.category]) ?_
  refine own_st (T' := T0) (g' := (mkF m 1 #[.val (.ref a1), .val (.ref a2), .val (.int p2), .val (.int p3), .val (.int p4), .val (.int p5)] [(.ref a1)])) (fun t9 k9 => XS.aloadN X0.here hx rfl (hb hby d2_0) rfl rfl k9) ?_
  obtain ⟨T1, X1, e1, st1⟩ := initO X0 hx hZ hown (hw _ (List.mem_of_getElem? (i := 9) rfl)) (hw _ (List.mem_of_getElem? (i := 10) rfl)) (hw _ (List.mem_of_getElem? (i := 11) rfl)) e0 (g := (mkF m 1 #[.val (.ref a1), .val (.ref a2), .val (.int p2), .val (.int p3), .val (.int p4), .val (.int p5)] [(.ref a1)])) rfl (by rw [hml]; rfl) rfl (hb hby d2_1) (by decide) (W := 0) (by show 2 * 0 + _ ≤ _; exact Nat.le_of_eq rfl) (by decide)
  refine own_st (T' := T1) (g' := (mkF m 4 #[.val (.ref a1), .val (.ref a2), .val (.int p2), .val (.int p3), .val (.int p4), .val (.int p5)] [])) (fun t9 k9 => st1 t9 k9) ?_
  refine own_st (T' := T1) (g' := (mkF m 5 #[.val (.ref a1), .val (.ref a2), .val (.int p2), .val (.int p3), .val (.int p4), .val (.int p5)] [(.ref a1)])) (fun t9 k9 => XS.aloadN X1.here hx rfl (hb hby d2_4) rfl rfl k9) ?_
  refine own_st (T' := T1) (g' := (mkF m 6 #[.val (.ref a1), .val (.ref a2), .val (.int p2), .val (.int p3), .val (.int p4), .val (.int p5)] [(.ref a2), (.ref a1)])) (fun t9 k9 => XS.aloadN X1.here hx rfl (hb hby d2_5) rfl rfl k9) ?_
  obtain ⟨T2, h2, X2, e2, W2, st2⟩ := putF X1 hx hZ hown (host := "") (Or.inl (hw _ (List.mem_of_getElem? (i := 12) rfl))) Via.refl e1 U_at E1 (Or.inr ⟨(hw _ (List.mem_of_getElem? (i := 13) rfl)), rfl, hnm⟩) (hw _ (List.mem_of_getElem? (i := 5) rfl)) (ty := (.object "com/example/weighted_worlds/weightedworlds/Place")) (by decide) rfl rfl (g := (mkF m 6 #[.val (.ref a1), .val (.ref a2), .val (.int p2), .val (.int p3), .val (.int p4), .val (.int p5)] [(.ref a2), (.ref a1)])) rfl rfl (hb hby d2_6)
  have Fw2 := U_at.same W2
  have E1_3 := E1.wr W2
  have U_depth_4 := U_depth.other W2 (Or.inr (slot_ne (Or.inr (hw _ (List.mem_of_getElem? (i := 15) rfl))) (Or.inr (hw _ (List.mem_of_getElem? (i := 13) rfl))) (by decide) (t := .int) (t' := (.object "com/example/weighted_worlds/weightedworlds/Place")) (by decide) (by decide)))
  have U_jump_5 := U_jump.other W2 (Or.inr (slot_ne (Or.inr (hw _ (List.mem_of_getElem? (i := 17) rfl))) (Or.inr (hw _ (List.mem_of_getElem? (i := 13) rfl))) (by decide) (t := (.object "com/example/weighted_worlds/weightedworlds/Place")) (t' := (.object "com/example/weighted_worlds/weightedworlds/Place")) (by decide) (by decide)))
  have U_rank_6 := U_rank.other W2 (Or.inr (slot_ne (Or.inr (hw _ (List.mem_of_getElem? (i := 19) rfl))) (Or.inr (hw _ (List.mem_of_getElem? (i := 13) rfl))) (by decide) (t := .int) (t' := (.object "com/example/weighted_worlds/weightedworlds/Place")) (by decide) (by decide)))
  have U_turn_7 := U_turn.other W2 (Or.inr (slot_ne (Or.inr (hw _ (List.mem_of_getElem? (i := 21) rfl))) (Or.inr (hw _ (List.mem_of_getElem? (i := 13) rfl))) (by decide) (t := .int) (t' := (.object "com/example/weighted_worlds/weightedworlds/Place")) (by decide) (by decide)))
  have U_conjunct_8 := U_conjunct.other W2 (Or.inr (slot_ne (Or.inr (hw _ (List.mem_of_getElem? (i := 23) rfl))) (Or.inr (hw _ (List.mem_of_getElem? (i := 13) rfl))) (by decide) (t := .int) (t' := (.object "com/example/weighted_worlds/weightedworlds/Place")) (by decide) (by decide)))
  have U_made_9 := U_made.other W2 (Or.inr (slot_ne (Or.inr (hw _ (List.mem_of_getElem? (i := 25) rfl))) (Or.inr (hw _ (List.mem_of_getElem? (i := 13) rfl))) (by decide) (t := .int) (t' := (.object "com/example/weighted_worlds/weightedworlds/Place")) (by decide) (by decide)))
  have U_turns_10 := U_turns.other W2 (Or.inr (slot_ne (Or.inl (hw _ (List.mem_of_getElem? (i := 69) rfl))) (Or.inr (hw _ (List.mem_of_getElem? (i := 13) rfl))) (by decide) (t := .int) (t' := (.object "com/example/weighted_worlds/weightedworlds/Place")) (by decide) (by decide)))
  have J1_11 := J1.other W2 (Or.inl n2)
  have J2_12 := J2.other W2 (Or.inl n2)
  have J3_13 := J3.other W2 (Or.inl n3)
  have J4_14 := J4.other W2 (Or.inl n3)
  have J5_15 := J5.other W2 (Or.inl n4)
  have K2 := K0.wr W2 (Or.inl (by simp))
  have N2 := Fr.snoc X2 N0 g_a1
  have Z2 : n0 ≤ h2.size := by rw [W2.size]; exact Z0
  refine own_st (T' := T2) (g' := (mkF m 9 #[.val (.ref a1), .val (.ref a2), .val (.int p2), .val (.int p3), .val (.int p4), .val (.int p5)] [])) (fun t9 k9 => st2 t9 k9) ?_
  refine own_st (T' := T2) (g' := (mkF m 10 #[.val (.ref a1), .val (.ref a2), .val (.int p2), .val (.int p3), .val (.int p4), .val (.int p5)] [(.ref a1)])) (fun t9 k9 => XS.aloadN X2.here hx rfl (hb hby d2_9) rfl rfl k9) ?_
  refine own_st (T' := T2) (g' := (mkF m 11 #[.val (.ref a1), .val (.ref a2), .val (.int p2), .val (.int p3), .val (.int p4), .val (.int p5)] [(.ref a2), (.ref a1)])) (fun t9 k9 => XS.aloadN X2.here hx rfl (hb hby d2_10) rfl rfl k9) ?_
  refine own_st (T' := T2) (g' := (mkF m 18 #[.val (.ref a1), .val (.ref a2), .val (.int p2), .val (.int p3), .val (.int p4), .val (.int p5)] [(.ref a1)])) (fun t9 k9 => XS.ifnonnullYes X2.here hx rfl (pc0 := 11) (pc' := 18) rfl (hb hby d2_11) rfl (by decide) (by decide) k9) ?_
  refine own_st (T' := T2) (g' := (mkF m 19 #[.val (.ref a1), .val (.ref a2), .val (.int p2), .val (.int p3), .val (.int p4), .val (.int p5)] [(.ref a2), (.ref a1)])) (fun t9 k9 => XS.aloadN X2.here hx rfl (hb hby d2_18) rfl rfl k9) ?_
  obtain ⟨T16, X16, e16, st16⟩ := getF X2 hx hZ hown (host := "") (Or.inl (hw _ (List.mem_of_getElem? (i := 14) rfl))) Via.refl e2 J1_11 (g := (mkF m 19 #[.val (.ref a1), .val (.ref a2), .val (.int p2), .val (.int p3), .val (.int p4), .val (.int p5)] [(.ref a2), (.ref a1)])) rfl rfl (hb hby d2_19)
  refine own_st (T' := T16) (g' := (mkF m 22 #[.val (.ref a1), .val (.ref a2), .val (.int p2), .val (.int p3), .val (.int p4), .val (.int p5)] [(.int dp), (.ref a1)])) (fun t9 k9 => st16 t9 k9) ?_
  refine own_st (T' := T16) (g' := (mkF m 23 #[.val (.ref a1), .val (.ref a2), .val (.int p2), .val (.int p3), .val (.int p4), .val (.int p5)] [(.int (1 : Int32)), (.int dp), (.ref a1)])) (fun t9 k9 => XS.iconst X16.here hx rfl (hb hby d2_22) k9) ?_
  refine own_st (T' := T16) (g' := (mkF m 24 #[.val (.ref a1), .val (.ref a2), .val (.int p2), .val (.int p3), .val (.int p4), .val (.int p5)] [(.int (dp + (1 : Int32))), (.ref a1)])) (fun t9 k9 => XS.iadd X16.here hx rfl (hb hby d2_23) rfl k9) ?_
  obtain ⟨T17, h17, X17, e17, W17, st17⟩ := putF X16 hx hZ hown (host := "") (Or.inl (hw _ (List.mem_of_getElem? (i := 14) rfl))) Via.refl e16 U_depth_4 E1_3 (Or.inr ⟨(hw _ (List.mem_of_getElem? (i := 15) rfl)), rfl, hnm⟩) (hw _ (List.mem_of_getElem? (i := 5) rfl)) (ty := .int) (by decide) rfl rfl (g := (mkF m 24 #[.val (.ref a1), .val (.ref a2), .val (.int p2), .val (.int p3), .val (.int p4), .val (.int p5)] [(.int (dp + (1 : Int32))), (.ref a1)])) rfl rfl (hb hby d2_24)
  have Fw17 := U_depth_4.same W17
  have E1_18 := E1_3.wr W17
  have Fw2_19 := Fw2.other W17 (Or.inr (slot_ne (Or.inr (hw _ (List.mem_of_getElem? (i := 13) rfl))) (Or.inr (hw _ (List.mem_of_getElem? (i := 15) rfl))) (by decide) (t := (.object "com/example/weighted_worlds/weightedworlds/Place")) (t' := .int) (by decide) (by decide)))
  have U_jump_20 := U_jump_5.other W17 (Or.inr (slot_ne (Or.inr (hw _ (List.mem_of_getElem? (i := 17) rfl))) (Or.inr (hw _ (List.mem_of_getElem? (i := 15) rfl))) (by decide) (t := (.object "com/example/weighted_worlds/weightedworlds/Place")) (t' := .int) (by decide) (by decide)))
  have U_rank_21 := U_rank_6.other W17 (Or.inr (slot_ne (Or.inr (hw _ (List.mem_of_getElem? (i := 19) rfl))) (Or.inr (hw _ (List.mem_of_getElem? (i := 15) rfl))) (by decide) (t := .int) (t' := .int) (by decide) (by decide)))
  have U_turn_22 := U_turn_7.other W17 (Or.inr (slot_ne (Or.inr (hw _ (List.mem_of_getElem? (i := 21) rfl))) (Or.inr (hw _ (List.mem_of_getElem? (i := 15) rfl))) (by decide) (t := .int) (t' := .int) (by decide) (by decide)))
  have U_conjunct_23 := U_conjunct_8.other W17 (Or.inr (slot_ne (Or.inr (hw _ (List.mem_of_getElem? (i := 23) rfl))) (Or.inr (hw _ (List.mem_of_getElem? (i := 15) rfl))) (by decide) (t := .int) (t' := .int) (by decide) (by decide)))
  have U_made_24 := U_made_9.other W17 (Or.inr (slot_ne (Or.inr (hw _ (List.mem_of_getElem? (i := 25) rfl))) (Or.inr (hw _ (List.mem_of_getElem? (i := 15) rfl))) (by decide) (t := .int) (t' := .int) (by decide) (by decide)))
  have U_turns_25 := U_turns_10.other W17 (Or.inr (slot_ne (Or.inl (hw _ (List.mem_of_getElem? (i := 69) rfl))) (Or.inr (hw _ (List.mem_of_getElem? (i := 15) rfl))) (by decide) (t := .int) (t' := .int) (by decide) (by decide)))
  have J1_26 := J1_11.other W17 (Or.inl n2)
  have J2_27 := J2_12.other W17 (Or.inl n2)
  have J3_28 := J3_13.other W17 (Or.inl n3)
  have J4_29 := J4_14.other W17 (Or.inl n3)
  have J5_30 := J5_15.other W17 (Or.inl n4)
  have K17 := K2.wr W17 (Or.inl (by simp))
  have N17 := Fr.snoc X17 N2 g_a1
  have Z17 : n0 ≤ h17.size := by rw [W17.size]; exact Z2
  refine own_st (T' := T17) (g' := (mkF m 27 #[.val (.ref a1), .val (.ref a2), .val (.int p2), .val (.int p3), .val (.int p4), .val (.int p5)] [])) (fun t9 k9 => st17 t9 k9) ?_
  refine own_st (T' := T17) (g' := (mkF m 28 #[.val (.ref a1), .val (.ref a2), .val (.int p2), .val (.int p3), .val (.int p4), .val (.int p5)] [(.ref a1)])) (fun t9 k9 => XS.aloadN X17.here hx rfl (hb hby d2_27) rfl rfl k9) ?_
  refine own_st (T' := T17) (g' := (mkF m 29 #[.val (.ref a1), .val (.ref a2), .val (.int p2), .val (.int p3), .val (.int p4), .val (.int p5)] [(.ref a2), (.ref a1)])) (fun t9 k9 => XS.aloadN X17.here hx rfl (hb hby d2_28) rfl rfl k9) ?_
  refine own_st (T' := T17) (g' := (mkF m 36 #[.val (.ref a1), .val (.ref a2), .val (.int p2), .val (.int p3), .val (.int p4), .val (.int p5)] [(.ref a1)])) (fun t9 k9 => XS.ifnonnullYes X17.here hx rfl (pc0 := 29) (pc' := 36) rfl (hb hby d2_29) rfl (by decide) (by decide) k9) ?_
  refine own_st (T' := T17) (g' := (mkF m 37 #[.val (.ref a1), .val (.ref a2), .val (.int p2), .val (.int p3), .val (.int p4), .val (.int p5)] [(.ref a2), (.ref a1)])) (fun t9 k9 => XS.aloadN X17.here hx rfl (hb hby d2_36) rfl rfl k9) ?_
  obtain ⟨_, _, ⟨T31, L31, k31, n31⟩, -, X31, ⟨Lc31, hQ31, l31, y31, z31⟩, st31⟩ := Jvm.LawKit.callS X17 hx (y := (⟨"com/example/weighted_worlds/weightedworlds/Place", "jumpBelow", "(Lcom/example/weighted_worlds/weightedworlds/Place;)Lcom/example/weighted_worlds/weightedworlds/Place;"⟩ : MethodName)) hown (mvT hZ (hw _ (List.mem_of_getElem? (i := 74) rfl))) (mvT hZ (hw _ (List.mem_of_getElem? (i := 75) rfl))) (mvT hZ (hw _ (List.mem_of_getElem? (i := 2) rfl))) (mvT hZ (hw _ (List.mem_of_getElem? (i := 76) rfl))) (by decide) (own_back (W := 1) (rm11 l Z a0 hw a2 f1 f2 dp df dg h17 n0 Z17 J1_26 J2_27 J3_28 J4_29 J5_30) hZ (hw _ (List.mem_of_getElem? (i := 76) rfl)) (hw _ (List.mem_of_getElem? (i := 2) rfl)) (by decide) (by decide)) (g := (mkF m 37 #[.val (.ref a1), .val (.ref a2), .val (.int p2), .val (.int p3), .val (.int p4), .val (.int p5)] [(.ref a2), (.ref a1)])) rfl (by rw [hml]; rfl) (argsL := [(.ref a2)]) (rest := [(.ref a1)]) (lenOf pd_9 rfl) rfl (by show 2 * 0 + _ ≤ _; exact Nat.le_of_eq rfl) (hb hby d2_37) (fun _ _ => ⟨rfl, e17, (Nat.le_of_ble_eq_true rfl), (Nat.le_of_ble_eq_true rfl)⟩)
  dsimp only [Pt.U, Pt.locs, Pt.cells, Pt.slots] at X31 l31 y31 z31 st31 hQ31
  subst l31 y31 z31
  obtain ⟨r31, rfl, Nq31, he31, hr31⟩ := hQ31
  have N31 := Fr.app N17 Nq31
  have e31 : T31.heap = h17 := he31
  refine own_st (T' := T31) (g' := (mkF m 40 #[.val (.ref a1), .val (.ref a2), .val (.int p2), .val (.int p3), .val (.int p4), .val (.int p5)] [(.ref r31), (.ref a1)])) (fun t9 k9 => st31 t9 k9) ?_
  obtain ⟨T32, h32, X32, e32, W32, st32⟩ := putF X31 hx hZ hown (host := "") (Or.inl (hw _ (List.mem_of_getElem? (i := 16) rfl))) Via.refl e31 U_jump_20 E1_18 (Or.inr ⟨(hw _ (List.mem_of_getElem? (i := 17) rfl)), rfl, hnm⟩) (hw _ (List.mem_of_getElem? (i := 5) rfl)) (ty := (.object "com/example/weighted_worlds/weightedworlds/Place")) (by decide) rfl rfl (g := (mkF m 40 #[.val (.ref a1), .val (.ref a2), .val (.int p2), .val (.int p3), .val (.int p4), .val (.int p5)] [(.ref r31), (.ref a1)])) rfl rfl (hb hby d2_40)
  have Fw32 := U_jump_20.same W32
  have E1_33 := E1_18.wr W32
  have Fw2_34 := Fw2_19.other W32 (Or.inr (slot_ne (Or.inr (hw _ (List.mem_of_getElem? (i := 13) rfl))) (Or.inr (hw _ (List.mem_of_getElem? (i := 17) rfl))) (by decide) (t := (.object "com/example/weighted_worlds/weightedworlds/Place")) (t' := (.object "com/example/weighted_worlds/weightedworlds/Place")) (by decide) (by decide)))
  have Fw17_35 := Fw17.other W32 (Or.inr (slot_ne (Or.inr (hw _ (List.mem_of_getElem? (i := 15) rfl))) (Or.inr (hw _ (List.mem_of_getElem? (i := 17) rfl))) (by decide) (t := .int) (t' := (.object "com/example/weighted_worlds/weightedworlds/Place")) (by decide) (by decide)))
  have U_rank_36 := U_rank_21.other W32 (Or.inr (slot_ne (Or.inr (hw _ (List.mem_of_getElem? (i := 19) rfl))) (Or.inr (hw _ (List.mem_of_getElem? (i := 17) rfl))) (by decide) (t := .int) (t' := (.object "com/example/weighted_worlds/weightedworlds/Place")) (by decide) (by decide)))
  have U_turn_37 := U_turn_22.other W32 (Or.inr (slot_ne (Or.inr (hw _ (List.mem_of_getElem? (i := 21) rfl))) (Or.inr (hw _ (List.mem_of_getElem? (i := 17) rfl))) (by decide) (t := .int) (t' := (.object "com/example/weighted_worlds/weightedworlds/Place")) (by decide) (by decide)))
  have U_conjunct_38 := U_conjunct_23.other W32 (Or.inr (slot_ne (Or.inr (hw _ (List.mem_of_getElem? (i := 23) rfl))) (Or.inr (hw _ (List.mem_of_getElem? (i := 17) rfl))) (by decide) (t := .int) (t' := (.object "com/example/weighted_worlds/weightedworlds/Place")) (by decide) (by decide)))
  have U_made_39 := U_made_24.other W32 (Or.inr (slot_ne (Or.inr (hw _ (List.mem_of_getElem? (i := 25) rfl))) (Or.inr (hw _ (List.mem_of_getElem? (i := 17) rfl))) (by decide) (t := .int) (t' := (.object "com/example/weighted_worlds/weightedworlds/Place")) (by decide) (by decide)))
  have U_turns_40 := U_turns_25.other W32 (Or.inr (slot_ne (Or.inl (hw _ (List.mem_of_getElem? (i := 69) rfl))) (Or.inr (hw _ (List.mem_of_getElem? (i := 17) rfl))) (by decide) (t := .int) (t' := (.object "com/example/weighted_worlds/weightedworlds/Place")) (by decide) (by decide)))
  have J1_41 := J1_26.other W32 (Or.inl n2)
  have J2_42 := J2_27.other W32 (Or.inl n2)
  have J3_43 := J3_28.other W32 (Or.inl n3)
  have J4_44 := J4_29.other W32 (Or.inl n3)
  have J5_45 := J5_30.other W32 (Or.inl n4)
  have K32 := K17.wr W32 (Or.inl (by simp))
  have N32 := Fr.snoc X32 N31 g_a1
  have Z32 : n0 ≤ h32.size := by rw [W32.size]; exact Z17
  refine own_st (T' := T32) (g' := (mkF m 43 #[.val (.ref a1), .val (.ref a2), .val (.int p2), .val (.int p3), .val (.int p4), .val (.int p5)] [])) (fun t9 k9 => st32 t9 k9) ?_
  refine own_st (T' := T32) (g' := (mkF m 44 #[.val (.ref a1), .val (.ref a2), .val (.int p2), .val (.int p3), .val (.int p4), .val (.int p5)] [(.ref a1)])) (fun t9 k9 => XS.aloadN X32.here hx rfl (hb hby d2_43) rfl rfl k9) ?_
  refine own_st (T' := T32) (g' := (mkF m 45 #[.val (.ref a1), .val (.ref a2), .val (.int p2), .val (.int p3), .val (.int p4), .val (.int p5)] [(.int p2), (.ref a1)])) (fun t9 k9 => XS.iloadN X32.here hx rfl (hb hby d2_44) rfl k9) ?_
  obtain ⟨T46, h46, X46, e46, W46, st46⟩ := putF X32 hx hZ hown (host := "") (Or.inl (hw _ (List.mem_of_getElem? (i := 18) rfl))) Via.refl e32 U_rank_36 E1_33 (Or.inr ⟨(hw _ (List.mem_of_getElem? (i := 19) rfl)), rfl, hnm⟩) (hw _ (List.mem_of_getElem? (i := 5) rfl)) (ty := .int) (by decide) rfl rfl (g := (mkF m 45 #[.val (.ref a1), .val (.ref a2), .val (.int p2), .val (.int p3), .val (.int p4), .val (.int p5)] [(.int p2), (.ref a1)])) rfl rfl (hb hby d2_45)
  have Fw46 := U_rank_36.same W46
  have E1_47 := E1_33.wr W46
  have Fw2_48 := Fw2_34.other W46 (Or.inr (slot_ne (Or.inr (hw _ (List.mem_of_getElem? (i := 13) rfl))) (Or.inr (hw _ (List.mem_of_getElem? (i := 19) rfl))) (by decide) (t := (.object "com/example/weighted_worlds/weightedworlds/Place")) (t' := .int) (by decide) (by decide)))
  have Fw17_49 := Fw17_35.other W46 (Or.inr (slot_ne (Or.inr (hw _ (List.mem_of_getElem? (i := 15) rfl))) (Or.inr (hw _ (List.mem_of_getElem? (i := 19) rfl))) (by decide) (t := .int) (t' := .int) (by decide) (by decide)))
  have Fw32_50 := Fw32.other W46 (Or.inr (slot_ne (Or.inr (hw _ (List.mem_of_getElem? (i := 17) rfl))) (Or.inr (hw _ (List.mem_of_getElem? (i := 19) rfl))) (by decide) (t := (.object "com/example/weighted_worlds/weightedworlds/Place")) (t' := .int) (by decide) (by decide)))
  have U_turn_51 := U_turn_37.other W46 (Or.inr (slot_ne (Or.inr (hw _ (List.mem_of_getElem? (i := 21) rfl))) (Or.inr (hw _ (List.mem_of_getElem? (i := 19) rfl))) (by decide) (t := .int) (t' := .int) (by decide) (by decide)))
  have U_conjunct_52 := U_conjunct_38.other W46 (Or.inr (slot_ne (Or.inr (hw _ (List.mem_of_getElem? (i := 23) rfl))) (Or.inr (hw _ (List.mem_of_getElem? (i := 19) rfl))) (by decide) (t := .int) (t' := .int) (by decide) (by decide)))
  have U_made_53 := U_made_39.other W46 (Or.inr (slot_ne (Or.inr (hw _ (List.mem_of_getElem? (i := 25) rfl))) (Or.inr (hw _ (List.mem_of_getElem? (i := 19) rfl))) (by decide) (t := .int) (t' := .int) (by decide) (by decide)))
  have U_turns_54 := U_turns_40.other W46 (Or.inr (slot_ne (Or.inl (hw _ (List.mem_of_getElem? (i := 69) rfl))) (Or.inr (hw _ (List.mem_of_getElem? (i := 19) rfl))) (by decide) (t := .int) (t' := .int) (by decide) (by decide)))
  have J1_55 := J1_41.other W46 (Or.inl n2)
  have J2_56 := J2_42.other W46 (Or.inl n2)
  have J3_57 := J3_43.other W46 (Or.inl n3)
  have J4_58 := J4_44.other W46 (Or.inl n3)
  have J5_59 := J5_45.other W46 (Or.inl n4)
  have K46 := K32.wr W46 (Or.inl (by simp))
  have N46 := Fr.snoc X46 N32 g_a1
  have Z46 : n0 ≤ h46.size := by rw [W46.size]; exact Z32
  refine own_st (T' := T46) (g' := (mkF m 48 #[.val (.ref a1), .val (.ref a2), .val (.int p2), .val (.int p3), .val (.int p4), .val (.int p5)] [])) (fun t9 k9 => st46 t9 k9) ?_
  refine own_st (T' := T46) (g' := (mkF m 49 #[.val (.ref a1), .val (.ref a2), .val (.int p2), .val (.int p3), .val (.int p4), .val (.int p5)] [(.ref a1)])) (fun t9 k9 => XS.aloadN X46.here hx rfl (hb hby d2_48) rfl rfl k9) ?_
  refine own_st (T' := T46) (g' := (mkF m 50 #[.val (.ref a1), .val (.ref a2), .val (.int p2), .val (.int p3), .val (.int p4), .val (.int p5)] [(.int p3), (.ref a1)])) (fun t9 k9 => XS.iloadN X46.here hx rfl (hb hby d2_49) rfl k9) ?_
  obtain ⟨T60, h60, X60, e60, W60, st60⟩ := putF X46 hx hZ hown (host := "") (Or.inl (hw _ (List.mem_of_getElem? (i := 20) rfl))) Via.refl e46 U_turn_51 E1_47 (Or.inr ⟨(hw _ (List.mem_of_getElem? (i := 21) rfl)), rfl, hnm⟩) (hw _ (List.mem_of_getElem? (i := 5) rfl)) (ty := .int) (by decide) rfl rfl (g := (mkF m 50 #[.val (.ref a1), .val (.ref a2), .val (.int p2), .val (.int p3), .val (.int p4), .val (.int p5)] [(.int p3), (.ref a1)])) rfl rfl (hb hby d2_50)
  have Fw60 := U_turn_51.same W60
  have E1_61 := E1_47.wr W60
  have Fw2_62 := Fw2_48.other W60 (Or.inr (slot_ne (Or.inr (hw _ (List.mem_of_getElem? (i := 13) rfl))) (Or.inr (hw _ (List.mem_of_getElem? (i := 21) rfl))) (by decide) (t := (.object "com/example/weighted_worlds/weightedworlds/Place")) (t' := .int) (by decide) (by decide)))
  have Fw17_63 := Fw17_49.other W60 (Or.inr (slot_ne (Or.inr (hw _ (List.mem_of_getElem? (i := 15) rfl))) (Or.inr (hw _ (List.mem_of_getElem? (i := 21) rfl))) (by decide) (t := .int) (t' := .int) (by decide) (by decide)))
  have Fw32_64 := Fw32_50.other W60 (Or.inr (slot_ne (Or.inr (hw _ (List.mem_of_getElem? (i := 17) rfl))) (Or.inr (hw _ (List.mem_of_getElem? (i := 21) rfl))) (by decide) (t := (.object "com/example/weighted_worlds/weightedworlds/Place")) (t' := .int) (by decide) (by decide)))
  have Fw46_65 := Fw46.other W60 (Or.inr (slot_ne (Or.inr (hw _ (List.mem_of_getElem? (i := 19) rfl))) (Or.inr (hw _ (List.mem_of_getElem? (i := 21) rfl))) (by decide) (t := .int) (t' := .int) (by decide) (by decide)))
  have U_conjunct_66 := U_conjunct_52.other W60 (Or.inr (slot_ne (Or.inr (hw _ (List.mem_of_getElem? (i := 23) rfl))) (Or.inr (hw _ (List.mem_of_getElem? (i := 21) rfl))) (by decide) (t := .int) (t' := .int) (by decide) (by decide)))
  have U_made_67 := U_made_53.other W60 (Or.inr (slot_ne (Or.inr (hw _ (List.mem_of_getElem? (i := 25) rfl))) (Or.inr (hw _ (List.mem_of_getElem? (i := 21) rfl))) (by decide) (t := .int) (t' := .int) (by decide) (by decide)))
  have U_turns_68 := U_turns_54.other W60 (Or.inr (slot_ne (Or.inl (hw _ (List.mem_of_getElem? (i := 69) rfl))) (Or.inr (hw _ (List.mem_of_getElem? (i := 21) rfl))) (by decide) (t := .int) (t' := .int) (by decide) (by decide)))
  have J1_69 := J1_55.other W60 (Or.inl n2)
  have J2_70 := J2_56.other W60 (Or.inl n2)
  have J3_71 := J3_57.other W60 (Or.inl n3)
  have J4_72 := J4_58.other W60 (Or.inl n3)
  have J5_73 := J5_59.other W60 (Or.inl n4)
  have K60 := K46.wr W60 (Or.inl (by simp))
  have N60 := Fr.snoc X60 N46 g_a1
  have Z60 : n0 ≤ h60.size := by rw [W60.size]; exact Z46
  refine own_st (T' := T60) (g' := (mkF m 53 #[.val (.ref a1), .val (.ref a2), .val (.int p2), .val (.int p3), .val (.int p4), .val (.int p5)] [])) (fun t9 k9 => st60 t9 k9) ?_
  refine own_st (T' := T60) (g' := (mkF m 54 #[.val (.ref a1), .val (.ref a2), .val (.int p2), .val (.int p3), .val (.int p4), .val (.int p5)] [(.ref a1)])) (fun t9 k9 => XS.aloadN X60.here hx rfl (hb hby d2_53) rfl rfl k9) ?_
  refine own_st (T' := T60) (g' := (mkF m 56 #[.val (.ref a1), .val (.ref a2), .val (.int p2), .val (.int p3), .val (.int p4), .val (.int p5)] [(.int p4), (.ref a1)])) (fun t9 k9 => XS.iload X60.here hx rfl (hb hby d2_54) rfl k9) ?_
  obtain ⟨T74, h74, X74, e74, W74, st74⟩ := putF X60 hx hZ hown (host := "") (Or.inl (hw _ (List.mem_of_getElem? (i := 22) rfl))) Via.refl e60 U_conjunct_66 E1_61 (Or.inr ⟨(hw _ (List.mem_of_getElem? (i := 23) rfl)), rfl, hnm⟩) (hw _ (List.mem_of_getElem? (i := 5) rfl)) (ty := .int) (by decide) rfl rfl (g := (mkF m 56 #[.val (.ref a1), .val (.ref a2), .val (.int p2), .val (.int p3), .val (.int p4), .val (.int p5)] [(.int p4), (.ref a1)])) rfl rfl (hb hby d2_56)
  have Fw74 := U_conjunct_66.same W74
  have E1_75 := E1_61.wr W74
  have Fw2_76 := Fw2_62.other W74 (Or.inr (slot_ne (Or.inr (hw _ (List.mem_of_getElem? (i := 13) rfl))) (Or.inr (hw _ (List.mem_of_getElem? (i := 23) rfl))) (by decide) (t := (.object "com/example/weighted_worlds/weightedworlds/Place")) (t' := .int) (by decide) (by decide)))
  have Fw17_77 := Fw17_63.other W74 (Or.inr (slot_ne (Or.inr (hw _ (List.mem_of_getElem? (i := 15) rfl))) (Or.inr (hw _ (List.mem_of_getElem? (i := 23) rfl))) (by decide) (t := .int) (t' := .int) (by decide) (by decide)))
  have Fw32_78 := Fw32_64.other W74 (Or.inr (slot_ne (Or.inr (hw _ (List.mem_of_getElem? (i := 17) rfl))) (Or.inr (hw _ (List.mem_of_getElem? (i := 23) rfl))) (by decide) (t := (.object "com/example/weighted_worlds/weightedworlds/Place")) (t' := .int) (by decide) (by decide)))
  have Fw46_79 := Fw46_65.other W74 (Or.inr (slot_ne (Or.inr (hw _ (List.mem_of_getElem? (i := 19) rfl))) (Or.inr (hw _ (List.mem_of_getElem? (i := 23) rfl))) (by decide) (t := .int) (t' := .int) (by decide) (by decide)))
  have Fw60_80 := Fw60.other W74 (Or.inr (slot_ne (Or.inr (hw _ (List.mem_of_getElem? (i := 21) rfl))) (Or.inr (hw _ (List.mem_of_getElem? (i := 23) rfl))) (by decide) (t := .int) (t' := .int) (by decide) (by decide)))
  have U_made_81 := U_made_67.other W74 (Or.inr (slot_ne (Or.inr (hw _ (List.mem_of_getElem? (i := 25) rfl))) (Or.inr (hw _ (List.mem_of_getElem? (i := 23) rfl))) (by decide) (t := .int) (t' := .int) (by decide) (by decide)))
  have U_turns_82 := U_turns_68.other W74 (Or.inr (slot_ne (Or.inl (hw _ (List.mem_of_getElem? (i := 69) rfl))) (Or.inr (hw _ (List.mem_of_getElem? (i := 23) rfl))) (by decide) (t := .int) (t' := .int) (by decide) (by decide)))
  have J1_83 := J1_69.other W74 (Or.inl n2)
  have J2_84 := J2_70.other W74 (Or.inl n2)
  have J3_85 := J3_71.other W74 (Or.inl n3)
  have J4_86 := J4_72.other W74 (Or.inl n3)
  have J5_87 := J5_73.other W74 (Or.inl n4)
  have K74 := K60.wr W74 (Or.inl (by simp))
  have N74 := Fr.snoc X74 N60 g_a1
  have Z74 : n0 ≤ h74.size := by rw [W74.size]; exact Z60
  refine own_st (T' := T74) (g' := (mkF m 59 #[.val (.ref a1), .val (.ref a2), .val (.int p2), .val (.int p3), .val (.int p4), .val (.int p5)] [])) (fun t9 k9 => st74 t9 k9) ?_
  refine own_st (T' := T74) (g' := (mkF m 60 #[.val (.ref a1), .val (.ref a2), .val (.int p2), .val (.int p3), .val (.int p4), .val (.int p5)] [(.ref a1)])) (fun t9 k9 => XS.aloadN X74.here hx rfl (hb hby d2_59) rfl rfl k9) ?_
  refine own_st (T' := T74) (g' := (mkF m 62 #[.val (.ref a1), .val (.ref a2), .val (.int p2), .val (.int p3), .val (.int p4), .val (.int p5)] [(.int p5), (.ref a1)])) (fun t9 k9 => XS.iload X74.here hx rfl (hb hby d2_60) rfl k9) ?_
  obtain ⟨T88, h88, X88, e88, W88, st88⟩ := putF X74 hx hZ hown (host := "") (Or.inl (hw _ (List.mem_of_getElem? (i := 24) rfl))) Via.refl e74 U_made_81 E1_75 (Or.inr ⟨(hw _ (List.mem_of_getElem? (i := 25) rfl)), rfl, hnm⟩) (hw _ (List.mem_of_getElem? (i := 5) rfl)) (ty := .int) (by decide) rfl rfl (g := (mkF m 62 #[.val (.ref a1), .val (.ref a2), .val (.int p2), .val (.int p3), .val (.int p4), .val (.int p5)] [(.int p5), (.ref a1)])) rfl rfl (hb hby d2_62)
  have Fw88 := U_made_81.same W88
  have E1_89 := E1_75.wr W88
  have Fw2_90 := Fw2_76.other W88 (Or.inr (slot_ne (Or.inr (hw _ (List.mem_of_getElem? (i := 13) rfl))) (Or.inr (hw _ (List.mem_of_getElem? (i := 25) rfl))) (by decide) (t := (.object "com/example/weighted_worlds/weightedworlds/Place")) (t' := .int) (by decide) (by decide)))
  have Fw17_91 := Fw17_77.other W88 (Or.inr (slot_ne (Or.inr (hw _ (List.mem_of_getElem? (i := 15) rfl))) (Or.inr (hw _ (List.mem_of_getElem? (i := 25) rfl))) (by decide) (t := .int) (t' := .int) (by decide) (by decide)))
  have Fw32_92 := Fw32_78.other W88 (Or.inr (slot_ne (Or.inr (hw _ (List.mem_of_getElem? (i := 17) rfl))) (Or.inr (hw _ (List.mem_of_getElem? (i := 25) rfl))) (by decide) (t := (.object "com/example/weighted_worlds/weightedworlds/Place")) (t' := .int) (by decide) (by decide)))
  have Fw46_93 := Fw46_79.other W88 (Or.inr (slot_ne (Or.inr (hw _ (List.mem_of_getElem? (i := 19) rfl))) (Or.inr (hw _ (List.mem_of_getElem? (i := 25) rfl))) (by decide) (t := .int) (t' := .int) (by decide) (by decide)))
  have Fw60_94 := Fw60_80.other W88 (Or.inr (slot_ne (Or.inr (hw _ (List.mem_of_getElem? (i := 21) rfl))) (Or.inr (hw _ (List.mem_of_getElem? (i := 25) rfl))) (by decide) (t := .int) (t' := .int) (by decide) (by decide)))
  have Fw74_95 := Fw74.other W88 (Or.inr (slot_ne (Or.inr (hw _ (List.mem_of_getElem? (i := 23) rfl))) (Or.inr (hw _ (List.mem_of_getElem? (i := 25) rfl))) (by decide) (t := .int) (t' := .int) (by decide) (by decide)))
  have U_turns_96 := U_turns_82.other W88 (Or.inr (slot_ne (Or.inl (hw _ (List.mem_of_getElem? (i := 69) rfl))) (Or.inr (hw _ (List.mem_of_getElem? (i := 25) rfl))) (by decide) (t := .int) (t' := .int) (by decide) (by decide)))
  have J1_97 := J1_83.other W88 (Or.inl n2)
  have J2_98 := J2_84.other W88 (Or.inl n2)
  have J3_99 := J3_85.other W88 (Or.inl n3)
  have J4_100 := J4_86.other W88 (Or.inl n3)
  have J5_101 := J5_87.other W88 (Or.inl n4)
  have K88 := K74.wr W88 (Or.inl (by simp))
  have N88 := Fr.snoc X88 N74 g_a1
  have Z88 : n0 ≤ h88.size := by rw [W88.size]; exact Z74
  refine own_st (T' := T88) (g' := (mkF m 65 #[.val (.ref a1), .val (.ref a2), .val (.int p2), .val (.int p3), .val (.int p4), .val (.int p5)] [])) (fun t9 k9 => st88 t9 k9) ?_
  refine own_ret (v := none) hF X88 (fun _ => rfl) hlk (fun fs hr => X88.returnOut hx hret (hb hby d2_65) hr) ?_ (by decide) (by decide)
  try rw [e88]
  exact ⟨r31, rfl, N88, K88, E1_89, Fw2_90, Fw17_91, Fw32_92, Fw46_93, Fw60_94, Fw74_95, Fw88, U_turns_96, hr31⟩
theorem d8_0 : decode prog_16_method_2_code 0 = .ok (.aload_n 0, 1) := by decide +kernel
theorem d8_1 : decode prog_16_method_2_code 1 = .ok (.invokespecial 7, 3) := by decide +kernel
theorem d8_4 : decode prog_16_method_2_code 4 = .ok (.aload_n 0, 1) := by decide +kernel
theorem d8_5 : decode prog_16_method_2_code 5 = .ok (.aload_n 1, 1) := by decide +kernel
theorem d8_6 : decode prog_16_method_2_code 6 = .ok (.putfield 12, 3) := by decide +kernel
theorem d8_9 : decode prog_16_method_2_code 9 = .ok (.aload_n 0, 1) := by decide +kernel
theorem d8_10 : decode prog_16_method_2_code 10 = .ok (.iload_n 2, 1) := by decide +kernel
theorem d8_11 : decode prog_16_method_2_code 11 = .ok (.putfield 16, 3) := by decide +kernel
theorem d8_14 : decode prog_16_method_2_code 14 = .ok (.aload_n 0, 1) := by decide +kernel
theorem d8_15 : decode prog_16_method_2_code 15 = .ok (.iload_n 3, 1) := by decide +kernel
theorem d8_16 : decode prog_16_method_2_code 16 = .ok (.putfield 20, 3) := by decide +kernel
theorem d8_19 : decode prog_16_method_2_code 19 = .ok (.aload_n 0, 1) := by decide +kernel
theorem d8_20 : decode prog_16_method_2_code 20 = .ok (.iload 4, 2) := by decide +kernel
theorem d8_22 : decode prog_16_method_2_code 22 = .ok (.putfield 23, 3) := by decide +kernel
theorem d8_25 : decode prog_16_method_2_code 25 = .ok (.return_, 1) := by decide +kernel
theorem pn_8 : plainFor (⟨"com/example/weighted_worlds/weightedworlds/Place$Turn", "<init>", "(Lcom/example/weighted_worlds/weightedworlds/Place;III)V"⟩ : MethodName) = true := plainFor_of_name (by first | (simp [plainName, overriddenIn]; done) | decide +kernel)
set_option maxRecDepth 65536 in
set_option maxHeartbeats 40000000 in
theorem rmT4 (l : Launch) (Z : State) (a0 : Array Value) (hw : ∀ d ∈ tables_1, d.before a0 Z = true) (a1 a2 : Addr) (p2 p3 p4 : Int32) (u0 u1 u2 u3 u4 : Value) (h0 : Heap) (n0 : Nat) (Z0 : n0 ≤ h0.size) (E1 : Exa Z h0 a1 "com/example/weighted_worlds/weightedworlds/Place$Turn") (U_at : Fld Z h0 a1 "com/example/weighted_worlds/weightedworlds/Place$Turn" "at" "Lcom/example/weighted_worlds/weightedworlds/Place;" u0) (U_rank : Fld Z h0 a1 "com/example/weighted_worlds/weightedworlds/Place$Turn" "rank" "I" u1) (U_turn : Fld Z h0 a1 "com/example/weighted_worlds/weightedworlds/Place$Turn" "turn" "I" u2) (U_conjunct : Fld Z h0 a1 "com/example/weighted_worlds/weightedworlds/Place$Turn" "conjunct" "I" u3) (U_made : Fld Z h0 a1 "com/example/weighted_worlds/weightedworlds/Place$Turn" "made" "I" u4) (g_a1 : n0 ≤ a1) :
    own_Met l Z (⟨"com/example/weighted_worlds/weightedworlds/Place$Turn", "<init>", "(Lcom/example/weighted_worlds/weightedworlds/Place;III)V"⟩ : MethodName) prog_16_method_2_code 5 none ({ frames := 1, cells := 0, slots := 0, locals := 12 } : Room) #[(.ref a1), (.ref a2), (.int p2), (.int p3), (.int p4)] h0 (fun v h L => v = none ∧ Fr n0 L ∧ Keep h0 h [a1] ∧ Exa Z h a1 "com/example/weighted_worlds/weightedworlds/Place$Turn" ∧ Fld Z h a1 "com/example/weighted_worlds/weightedworlds/Place$Turn" "at" "Lcom/example/weighted_worlds/weightedworlds/Place;" (.ref a2) ∧ Fld Z h a1 "com/example/weighted_worlds/weightedworlds/Place$Turn" "rank" "I" (.int p2) ∧ Fld Z h a1 "com/example/weighted_worlds/weightedworlds/Place$Turn" "turn" "I" (.int p3) ∧ Fld Z h a1 "com/example/weighted_worlds/weightedworlds/Place$Turn" "conjunct" "I" (.int p4) ∧ Fld Z h a1 "com/example/weighted_worlds/weightedworlds/Place$Turn" "made" "I" u4) := by
  refine own_body pn_8 ?_
  intro p e s m below meth c T0 hZ hx hby hml hown hnm hret hlk X0 e0 F hF
  have N0 := Fr.nil n0
  have K0 := Keep.refl h0 [a1]
  refine own_cast (g' := (mkF m 0 #[.val (.ref a1), .val (.ref a2), .val (.int p2), .val (.int p3), .val (.int p4)] [])) (by first | rfl | simp [entryFrame, mkF, argsToLocals, Value.category]) ?_
  refine own_st (T' := T0) (g' := (mkF m 1 #[.val (.ref a1), .val (.ref a2), .val (.int p2), .val (.int p3), .val (.int p4)] [(.ref a1)])) (fun t9 k9 => XS.aloadN X0.here hx rfl (hb hby d8_0) rfl rfl k9) ?_
  obtain ⟨T1, X1, e1, st1⟩ := initO X0 hx hZ hown (hw _ (List.mem_of_getElem? (i := 49) rfl)) (hw _ (List.mem_of_getElem? (i := 10) rfl)) (hw _ (List.mem_of_getElem? (i := 11) rfl)) e0 (g := (mkF m 1 #[.val (.ref a1), .val (.ref a2), .val (.int p2), .val (.int p3), .val (.int p4)] [(.ref a1)])) rfl (by rw [hml]; rfl) rfl (hb hby d8_1) (by decide) (W := 0) (by show 2 * 0 + _ ≤ _; exact Nat.le_of_eq rfl) (by decide)
  refine own_st (T' := T1) (g' := (mkF m 4 #[.val (.ref a1), .val (.ref a2), .val (.int p2), .val (.int p3), .val (.int p4)] [])) (fun t9 k9 => st1 t9 k9) ?_
  refine own_st (T' := T1) (g' := (mkF m 5 #[.val (.ref a1), .val (.ref a2), .val (.int p2), .val (.int p3), .val (.int p4)] [(.ref a1)])) (fun t9 k9 => XS.aloadN X1.here hx rfl (hb hby d8_4) rfl rfl k9) ?_
  refine own_st (T' := T1) (g' := (mkF m 6 #[.val (.ref a1), .val (.ref a2), .val (.int p2), .val (.int p3), .val (.int p4)] [(.ref a2), (.ref a1)])) (fun t9 k9 => XS.aloadN X1.here hx rfl (hb hby d8_5) rfl rfl k9) ?_
  obtain ⟨T2, h2, X2, e2, W2, st2⟩ := putF X1 hx hZ hown (host := "") (Or.inl (hw _ (List.mem_of_getElem? (i := 50) rfl))) Via.refl e1 U_at E1 (Or.inr ⟨(hw _ (List.mem_of_getElem? (i := 51) rfl)), rfl, hnm⟩) (hw _ (List.mem_of_getElem? (i := 41) rfl)) (ty := (.object "com/example/weighted_worlds/weightedworlds/Place")) (by decide) rfl rfl (g := (mkF m 6 #[.val (.ref a1), .val (.ref a2), .val (.int p2), .val (.int p3), .val (.int p4)] [(.ref a2), (.ref a1)])) rfl rfl (hb hby d8_6)
  have Fw2 := U_at.same W2
  have E1_3 := E1.wr W2
  have U_rank_4 := U_rank.other W2 (Or.inr (slot_ne (Or.inr (hw _ (List.mem_of_getElem? (i := 53) rfl))) (Or.inr (hw _ (List.mem_of_getElem? (i := 51) rfl))) (by decide) (t := .int) (t' := (.object "com/example/weighted_worlds/weightedworlds/Place")) (by decide) (by decide)))
  have U_turn_5 := U_turn.other W2 (Or.inr (slot_ne (Or.inr (hw _ (List.mem_of_getElem? (i := 55) rfl))) (Or.inr (hw _ (List.mem_of_getElem? (i := 51) rfl))) (by decide) (t := .int) (t' := (.object "com/example/weighted_worlds/weightedworlds/Place")) (by decide) (by decide)))
  have U_conjunct_6 := U_conjunct.other W2 (Or.inr (slot_ne (Or.inr (hw _ (List.mem_of_getElem? (i := 57) rfl))) (Or.inr (hw _ (List.mem_of_getElem? (i := 51) rfl))) (by decide) (t := .int) (t' := (.object "com/example/weighted_worlds/weightedworlds/Place")) (by decide) (by decide)))
  have U_made_7 := U_made.other W2 (Or.inr (slot_ne (Or.inl (hw _ (List.mem_of_getElem? (i := 72) rfl))) (Or.inr (hw _ (List.mem_of_getElem? (i := 51) rfl))) (by decide) (t := .int) (t' := (.object "com/example/weighted_worlds/weightedworlds/Place")) (by decide) (by decide)))
  have K2 := K0.wr W2 (Or.inl (by simp))
  have N2 := Fr.snoc X2 N0 g_a1
  have Z2 : n0 ≤ h2.size := by rw [W2.size]; exact Z0
  refine own_st (T' := T2) (g' := (mkF m 9 #[.val (.ref a1), .val (.ref a2), .val (.int p2), .val (.int p3), .val (.int p4)] [])) (fun t9 k9 => st2 t9 k9) ?_
  refine own_st (T' := T2) (g' := (mkF m 10 #[.val (.ref a1), .val (.ref a2), .val (.int p2), .val (.int p3), .val (.int p4)] [(.ref a1)])) (fun t9 k9 => XS.aloadN X2.here hx rfl (hb hby d8_9) rfl rfl k9) ?_
  refine own_st (T' := T2) (g' := (mkF m 11 #[.val (.ref a1), .val (.ref a2), .val (.int p2), .val (.int p3), .val (.int p4)] [(.int p2), (.ref a1)])) (fun t9 k9 => XS.iloadN X2.here hx rfl (hb hby d8_10) rfl k9) ?_
  obtain ⟨T8, h8, X8, e8, W8, st8⟩ := putF X2 hx hZ hown (host := "") (Or.inl (hw _ (List.mem_of_getElem? (i := 52) rfl))) Via.refl e2 U_rank_4 E1_3 (Or.inr ⟨(hw _ (List.mem_of_getElem? (i := 53) rfl)), rfl, hnm⟩) (hw _ (List.mem_of_getElem? (i := 41) rfl)) (ty := .int) (by decide) rfl rfl (g := (mkF m 11 #[.val (.ref a1), .val (.ref a2), .val (.int p2), .val (.int p3), .val (.int p4)] [(.int p2), (.ref a1)])) rfl rfl (hb hby d8_11)
  have Fw8 := U_rank_4.same W8
  have E1_9 := E1_3.wr W8
  have Fw2_10 := Fw2.other W8 (Or.inr (slot_ne (Or.inr (hw _ (List.mem_of_getElem? (i := 51) rfl))) (Or.inr (hw _ (List.mem_of_getElem? (i := 53) rfl))) (by decide) (t := (.object "com/example/weighted_worlds/weightedworlds/Place")) (t' := .int) (by decide) (by decide)))
  have U_turn_11 := U_turn_5.other W8 (Or.inr (slot_ne (Or.inr (hw _ (List.mem_of_getElem? (i := 55) rfl))) (Or.inr (hw _ (List.mem_of_getElem? (i := 53) rfl))) (by decide) (t := .int) (t' := .int) (by decide) (by decide)))
  have U_conjunct_12 := U_conjunct_6.other W8 (Or.inr (slot_ne (Or.inr (hw _ (List.mem_of_getElem? (i := 57) rfl))) (Or.inr (hw _ (List.mem_of_getElem? (i := 53) rfl))) (by decide) (t := .int) (t' := .int) (by decide) (by decide)))
  have U_made_13 := U_made_7.other W8 (Or.inr (slot_ne (Or.inl (hw _ (List.mem_of_getElem? (i := 72) rfl))) (Or.inr (hw _ (List.mem_of_getElem? (i := 53) rfl))) (by decide) (t := .int) (t' := .int) (by decide) (by decide)))
  have K8 := K2.wr W8 (Or.inl (by simp))
  have N8 := Fr.snoc X8 N2 g_a1
  have Z8 : n0 ≤ h8.size := by rw [W8.size]; exact Z2
  refine own_st (T' := T8) (g' := (mkF m 14 #[.val (.ref a1), .val (.ref a2), .val (.int p2), .val (.int p3), .val (.int p4)] [])) (fun t9 k9 => st8 t9 k9) ?_
  refine own_st (T' := T8) (g' := (mkF m 15 #[.val (.ref a1), .val (.ref a2), .val (.int p2), .val (.int p3), .val (.int p4)] [(.ref a1)])) (fun t9 k9 => XS.aloadN X8.here hx rfl (hb hby d8_14) rfl rfl k9) ?_
  refine own_st (T' := T8) (g' := (mkF m 16 #[.val (.ref a1), .val (.ref a2), .val (.int p2), .val (.int p3), .val (.int p4)] [(.int p3), (.ref a1)])) (fun t9 k9 => XS.iloadN X8.here hx rfl (hb hby d8_15) rfl k9) ?_
  obtain ⟨T14, h14, X14, e14, W14, st14⟩ := putF X8 hx hZ hown (host := "") (Or.inl (hw _ (List.mem_of_getElem? (i := 54) rfl))) Via.refl e8 U_turn_11 E1_9 (Or.inr ⟨(hw _ (List.mem_of_getElem? (i := 55) rfl)), rfl, hnm⟩) (hw _ (List.mem_of_getElem? (i := 41) rfl)) (ty := .int) (by decide) rfl rfl (g := (mkF m 16 #[.val (.ref a1), .val (.ref a2), .val (.int p2), .val (.int p3), .val (.int p4)] [(.int p3), (.ref a1)])) rfl rfl (hb hby d8_16)
  have Fw14 := U_turn_11.same W14
  have E1_15 := E1_9.wr W14
  have Fw2_16 := Fw2_10.other W14 (Or.inr (slot_ne (Or.inr (hw _ (List.mem_of_getElem? (i := 51) rfl))) (Or.inr (hw _ (List.mem_of_getElem? (i := 55) rfl))) (by decide) (t := (.object "com/example/weighted_worlds/weightedworlds/Place")) (t' := .int) (by decide) (by decide)))
  have Fw8_17 := Fw8.other W14 (Or.inr (slot_ne (Or.inr (hw _ (List.mem_of_getElem? (i := 53) rfl))) (Or.inr (hw _ (List.mem_of_getElem? (i := 55) rfl))) (by decide) (t := .int) (t' := .int) (by decide) (by decide)))
  have U_conjunct_18 := U_conjunct_12.other W14 (Or.inr (slot_ne (Or.inr (hw _ (List.mem_of_getElem? (i := 57) rfl))) (Or.inr (hw _ (List.mem_of_getElem? (i := 55) rfl))) (by decide) (t := .int) (t' := .int) (by decide) (by decide)))
  have U_made_19 := U_made_13.other W14 (Or.inr (slot_ne (Or.inl (hw _ (List.mem_of_getElem? (i := 72) rfl))) (Or.inr (hw _ (List.mem_of_getElem? (i := 55) rfl))) (by decide) (t := .int) (t' := .int) (by decide) (by decide)))
  have K14 := K8.wr W14 (Or.inl (by simp))
  have N14 := Fr.snoc X14 N8 g_a1
  have Z14 : n0 ≤ h14.size := by rw [W14.size]; exact Z8
  refine own_st (T' := T14) (g' := (mkF m 19 #[.val (.ref a1), .val (.ref a2), .val (.int p2), .val (.int p3), .val (.int p4)] [])) (fun t9 k9 => st14 t9 k9) ?_
  refine own_st (T' := T14) (g' := (mkF m 20 #[.val (.ref a1), .val (.ref a2), .val (.int p2), .val (.int p3), .val (.int p4)] [(.ref a1)])) (fun t9 k9 => XS.aloadN X14.here hx rfl (hb hby d8_19) rfl rfl k9) ?_
  refine own_st (T' := T14) (g' := (mkF m 22 #[.val (.ref a1), .val (.ref a2), .val (.int p2), .val (.int p3), .val (.int p4)] [(.int p4), (.ref a1)])) (fun t9 k9 => XS.iload X14.here hx rfl (hb hby d8_20) rfl k9) ?_
  obtain ⟨T20, h20, X20, e20, W20, st20⟩ := putF X14 hx hZ hown (host := "") (Or.inl (hw _ (List.mem_of_getElem? (i := 56) rfl))) Via.refl e14 U_conjunct_18 E1_15 (Or.inr ⟨(hw _ (List.mem_of_getElem? (i := 57) rfl)), rfl, hnm⟩) (hw _ (List.mem_of_getElem? (i := 41) rfl)) (ty := .int) (by decide) rfl rfl (g := (mkF m 22 #[.val (.ref a1), .val (.ref a2), .val (.int p2), .val (.int p3), .val (.int p4)] [(.int p4), (.ref a1)])) rfl rfl (hb hby d8_22)
  have Fw20 := U_conjunct_18.same W20
  have E1_21 := E1_15.wr W20
  have Fw2_22 := Fw2_16.other W20 (Or.inr (slot_ne (Or.inr (hw _ (List.mem_of_getElem? (i := 51) rfl))) (Or.inr (hw _ (List.mem_of_getElem? (i := 57) rfl))) (by decide) (t := (.object "com/example/weighted_worlds/weightedworlds/Place")) (t' := .int) (by decide) (by decide)))
  have Fw8_23 := Fw8_17.other W20 (Or.inr (slot_ne (Or.inr (hw _ (List.mem_of_getElem? (i := 53) rfl))) (Or.inr (hw _ (List.mem_of_getElem? (i := 57) rfl))) (by decide) (t := .int) (t' := .int) (by decide) (by decide)))
  have Fw14_24 := Fw14.other W20 (Or.inr (slot_ne (Or.inr (hw _ (List.mem_of_getElem? (i := 55) rfl))) (Or.inr (hw _ (List.mem_of_getElem? (i := 57) rfl))) (by decide) (t := .int) (t' := .int) (by decide) (by decide)))
  have U_made_25 := U_made_19.other W20 (Or.inr (slot_ne (Or.inl (hw _ (List.mem_of_getElem? (i := 72) rfl))) (Or.inr (hw _ (List.mem_of_getElem? (i := 57) rfl))) (by decide) (t := .int) (t' := .int) (by decide) (by decide)))
  have K20 := K14.wr W20 (Or.inl (by simp))
  have N20 := Fr.snoc X20 N14 g_a1
  have Z20 : n0 ≤ h20.size := by rw [W20.size]; exact Z14
  refine own_st (T' := T20) (g' := (mkF m 25 #[.val (.ref a1), .val (.ref a2), .val (.int p2), .val (.int p3), .val (.int p4)] [])) (fun t9 k9 => st20 t9 k9) ?_
  refine own_ret (v := none) hF X20 (fun _ => rfl) hlk (fun fs hr => X20.returnOut hx hret (hb hby d8_25) hr) ?_ (by decide) (by decide)
  try rw [e20]
  exact ⟨rfl, N20, K20, E1_21, Fw2_22, Fw8_23, Fw14_24, Fw20, U_made_25⟩
theorem d7_0 : decode prog_16_method_1_code 0 = .ok (.aload_n 0, 1) := by decide +kernel
theorem d7_1 : decode prog_16_method_1_code 1 = .ok (.aload_n 1, 1) := by decide +kernel
theorem d7_2 : decode prog_16_method_1_code 2 = .ok (.iload_n 2, 1) := by decide +kernel
theorem d7_3 : decode prog_16_method_1_code 3 = .ok (.iload_n 3, 1) := by decide +kernel
theorem d7_4 : decode prog_16_method_1_code 4 = .ok (.iconst 0, 1) := by decide +kernel
theorem d7_5 : decode prog_16_method_1_code 5 = .ok (.invokespecial 1, 3) := by decide +kernel
theorem d7_8 : decode prog_16_method_1_code 8 = .ok (.return_, 1) := by decide +kernel
theorem pn_7 : plainFor (⟨"com/example/weighted_worlds/weightedworlds/Place$Turn", "<init>", "(Lcom/example/weighted_worlds/weightedworlds/Place;II)V"⟩ : MethodName) = true := plainFor_of_name (by first | (simp [plainName, overriddenIn]; done) | decide +kernel)
set_option maxRecDepth 65536 in
set_option maxHeartbeats 40000000 in
theorem rmT3 (l : Launch) (Z : State) (a0 : Array Value) (hw : ∀ d ∈ tables_1, d.before a0 Z = true) (a1 a2 : Addr) (p2 p3 : Int32) (u0 u1 u2 u3 u4 : Value) (h0 : Heap) (n0 : Nat) (Z0 : n0 ≤ h0.size) (E1 : Exa Z h0 a1 "com/example/weighted_worlds/weightedworlds/Place$Turn") (U_at : Fld Z h0 a1 "com/example/weighted_worlds/weightedworlds/Place$Turn" "at" "Lcom/example/weighted_worlds/weightedworlds/Place;" u0) (U_rank : Fld Z h0 a1 "com/example/weighted_worlds/weightedworlds/Place$Turn" "rank" "I" u1) (U_turn : Fld Z h0 a1 "com/example/weighted_worlds/weightedworlds/Place$Turn" "turn" "I" u2) (U_conjunct : Fld Z h0 a1 "com/example/weighted_worlds/weightedworlds/Place$Turn" "conjunct" "I" u3) (U_made : Fld Z h0 a1 "com/example/weighted_worlds/weightedworlds/Place$Turn" "made" "I" u4) (g_a1 : n0 ≤ a1) :
    own_Met l Z (⟨"com/example/weighted_worlds/weightedworlds/Place$Turn", "<init>", "(Lcom/example/weighted_worlds/weightedworlds/Place;II)V"⟩ : MethodName) prog_16_method_1_code 4 none ({ frames := 2, cells := 0, slots := 0, locals := 28 } : Room) #[(.ref a1), (.ref a2), (.int p2), (.int p3)] h0 (fun v h L => v = none ∧ Fr n0 L ∧ Keep h0 h [a1] ∧ Exa Z h a1 "com/example/weighted_worlds/weightedworlds/Place$Turn" ∧ Fld Z h a1 "com/example/weighted_worlds/weightedworlds/Place$Turn" "at" "Lcom/example/weighted_worlds/weightedworlds/Place;" (.ref a2) ∧ Fld Z h a1 "com/example/weighted_worlds/weightedworlds/Place$Turn" "rank" "I" (.int p2) ∧ Fld Z h a1 "com/example/weighted_worlds/weightedworlds/Place$Turn" "turn" "I" (.int p3) ∧ Fld Z h a1 "com/example/weighted_worlds/weightedworlds/Place$Turn" "conjunct" "I" (.int (0 : Int32)) ∧ Fld Z h a1 "com/example/weighted_worlds/weightedworlds/Place$Turn" "made" "I" u4) := by
  refine own_body pn_7 ?_
  intro p e s m below meth c T0 hZ hx hby hml hown hnm hret hlk X0 e0 F hF
  have N0 := Fr.nil n0
  have K0 := Keep.refl h0 [a1]
  refine own_cast (g' := (mkF m 0 #[.val (.ref a1), .val (.ref a2), .val (.int p2), .val (.int p3)] [])) (by first | rfl | simp [entryFrame, mkF, argsToLocals, Value.category]) ?_
  refine own_st (T' := T0) (g' := (mkF m 1 #[.val (.ref a1), .val (.ref a2), .val (.int p2), .val (.int p3)] [(.ref a1)])) (fun t9 k9 => XS.aloadN X0.here hx rfl (hb hby d7_0) rfl rfl k9) ?_
  refine own_st (T' := T0) (g' := (mkF m 2 #[.val (.ref a1), .val (.ref a2), .val (.int p2), .val (.int p3)] [(.ref a2), (.ref a1)])) (fun t9 k9 => XS.aloadN X0.here hx rfl (hb hby d7_1) rfl rfl k9) ?_
  refine own_st (T' := T0) (g' := (mkF m 3 #[.val (.ref a1), .val (.ref a2), .val (.int p2), .val (.int p3)] [(.int p2), (.ref a2), (.ref a1)])) (fun t9 k9 => XS.iloadN X0.here hx rfl (hb hby d7_2) rfl k9) ?_
  refine own_st (T' := T0) (g' := (mkF m 4 #[.val (.ref a1), .val (.ref a2), .val (.int p2), .val (.int p3)] [(.int p3), (.int p2), (.ref a2), (.ref a1)])) (fun t9 k9 => XS.iloadN X0.here hx rfl (hb hby d7_3) rfl k9) ?_
  refine own_st (T' := T0) (g' := (mkF m 5 #[.val (.ref a1), .val (.ref a2), .val (.int p2), .val (.int p3)] [(.int (0 : Int32)), (.int p3), (.int p2), (.ref a2), (.ref a1)])) (fun t9 k9 => XS.iconst X0.here hx rfl (hb hby d7_4) k9) ?_
  obtain ⟨_, _, ⟨T1, L1, k1, n1⟩, -, X1, ⟨Lc1, hQ1, l1, y1, z1⟩, st1⟩ := X0.specialBack hx (y := (⟨"com/example/weighted_worlds/weightedworlds/Place$Turn", "<init>", "(Lcom/example/weighted_worlds/weightedworlds/Place;III)V"⟩ : MethodName)) rfl hown (mvT hZ (hw _ (List.mem_of_getElem? (i := 46) rfl))) (mvT hZ (hw _ (List.mem_of_getElem? (i := 47) rfl))) (mvT hZ (hw _ (List.mem_of_getElem? (i := 48) rfl))) (by decide) (own_back (W := 0) (rmT4 l Z a0 hw a1 a2 p2 p3 (0 : Int32) u0 u1 u2 u3 u4 h0 n0 Z0 E1 U_at U_rank U_turn U_conjunct U_made g_a1) hZ (hw _ (List.mem_of_getElem? (i := 48) rfl)) (hw _ (List.mem_of_getElem? (i := 42) rfl)) (by decide) (by decide)) (g := (mkF m 5 #[.val (.ref a1), .val (.ref a2), .val (.int p2), .val (.int p3)] [(.int (0 : Int32)), (.int p3), (.int p2), (.ref a2), (.ref a1)])) rfl (by rw [hml]; rfl) (Steps.refl _) (a := a1) (argsL := [(.ref a2), (.int p2), (.int p3), (.int (0 : Int32))]) (rest := []) (lenOf pd_7 rfl) rfl (by show 2 * 0 + _ ≤ _; exact Nat.le_of_eq rfl) (hb hby d7_5) (fun _ _ => ⟨rfl, e0, (Nat.le_of_ble_eq_true rfl), (Nat.le_of_ble_eq_true rfl)⟩)
  dsimp only [Pt.U, Pt.locs, Pt.cells, Pt.slots] at X1 l1 y1 z1 st1 hQ1
  subst l1 y1 z1
  obtain ⟨rfl, Nq1, Kq1, Eq1, Fat1, Frank1, Fturn1, Fconjunct1, Fmade1⟩ := hQ1
  have N1 := Fr.app N0 Nq1
  obtain ⟨h1, e1⟩ : ∃ z, T1.heap = z := ⟨_, rfl⟩
  rw [e1] at Kq1 Eq1 Fat1 Frank1 Fturn1 Fconjunct1 Fmade1
  have E1_2 := E1.keep Kq1
  have K1 := K0.trans Kq1 (allS (Or.inl (by simp)) all0)
  have Z1 : n0 ≤ h1.size := Nat.le_trans Z0 Kq1.1
  refine own_st (T' := T1) (g' := (mkF m 8 #[.val (.ref a1), .val (.ref a2), .val (.int p2), .val (.int p3)] [])) (fun t9 k9 => st1.trans k9) ?_
  refine own_ret (v := none) hF X1 (fun _ => rfl) hlk (fun fs hr => X1.returnOut hx hret (hb hby d7_8) hr) ?_ (by decide) (by decide)
  try rw [e1]
  exact ⟨rfl, N1, K1, Eq1, Fat1, Frank1, Fturn1, Fconjunct1, Fmade1⟩
theorem d6_0 : decode prog_15_method_5_code 0 = .ok (.new 39, 3) := by decide +kernel
theorem d6_3 : decode prog_15_method_5_code 3 = .ok (.dup, 1) := by decide +kernel
theorem d6_4 : decode prog_15_method_5_code 4 = .ok (.aload_n 0, 1) := by decide +kernel
theorem d6_5 : decode prog_15_method_5_code 5 = .ok (.iconst 0, 1) := by decide +kernel
theorem d6_6 : decode prog_15_method_5_code 6 = .ok (.iconst (-1), 1) := by decide +kernel
theorem d6_7 : decode prog_15_method_5_code 7 = .ok (.invokespecial 44, 3) := by decide +kernel
theorem d6_10 : decode prog_15_method_5_code 10 = .ok (.areturn, 1) := by decide +kernel
theorem pn_6 : plainFor (⟨"com/example/weighted_worlds/weightedworlds/Place", "restating", "()Lcom/example/weighted_worlds/weightedworlds/Place$Turn;"⟩ : MethodName) = true := plainFor_of_name (by first | (simp [plainName, overriddenIn]; done) | decide +kernel)
set_option maxRecDepth 65536 in
set_option maxHeartbeats 40000000 in
theorem rm6 (l : Launch) (Z : State) (a0 : Array Value) (hw : ∀ d ∈ tables_1, d.before a0 Z = true) (a1 : Addr) (h0 : Heap) (n0 : Nat) (Z0 : n0 ≤ h0.size)  :
    own_Met l Z (⟨"com/example/weighted_worlds/weightedworlds/Place", "restating", "()Lcom/example/weighted_worlds/weightedworlds/Place$Turn;"⟩ : MethodName) prog_15_method_5_code 1 (some (.object "com/example/weighted_worlds/weightedworlds/Place$Turn")) ({ frames := 3, cells := 1, slots := 5, locals := 44 } : Room) #[(.ref a1)] h0 (fun v h L => ∃ b, v = some (.ref b) ∧ Fr n0 L ∧ Keep h0 h [] ∧ Exa Z h b "com/example/weighted_worlds/weightedworlds/Place$Turn" ∧ Fld Z h b "com/example/weighted_worlds/weightedworlds/Place$Turn" "at" "Lcom/example/weighted_worlds/weightedworlds/Place;" (.ref a1) ∧ Fld Z h b "com/example/weighted_worlds/weightedworlds/Place$Turn" "turn" "I" (.int (-1 : Int32))) := by
  refine own_body pn_6 ?_
  intro p e s m below meth c T0 hZ hx hby hml hown hnm hret hlk X0 e0 F hF
  have N0 := Fr.nil n0
  have K0 := Keep.refl h0 []
  refine own_cast (g' := (mkF m 0 #[.val (.ref a1)] [])) (by first | rfl | simp [entryFrame, mkF, argsToLocals, Value.category]) ?_
  obtain ⟨T1, h1, X1, e1, Ex1, A1, D1, -, st1⟩ := newO X0 hx hZ hown (hw _ (List.mem_of_getElem? (i := 40) rfl)) (hw _ (List.mem_of_getElem? (i := 41) rfl)) (hw _ (List.mem_of_getElem? (i := 42) rfl)) e0 (g := (mkF m 0 #[.val (.ref a1)] [])) rfl (hb hby d6_0) (by decide) (by decide)
  obtain ⟨b1, gb1⟩ : ∃ z, z = h0.size := ⟨_, rfl⟩
  have g_b1 : n0 ≤ b1 := gb1 ▸ Z0
  have sz_b1 : h0.size ≤ b1 := gb1 ▸ K0.1
  rw [← gb1] at A1 D1 st1
  have K1 := K0.ext Ex1
  have Z1 : n0 ≤ h1.size := Nat.le_trans Z0 Ex1.1
  have F_at_b1 : Fld Z h1 b1 "com/example/weighted_worlds/weightedworlds/Place$Turn" "at" "Lcom/example/weighted_worlds/weightedworlds/Place;" .null := D1 (Or.inr (hw _ (List.mem_of_getElem? (i := 51) rfl))) (ty := (.object "com/example/weighted_worlds/weightedworlds/Place")) (by decide)
  have F_rank_b1 : Fld Z h1 b1 "com/example/weighted_worlds/weightedworlds/Place$Turn" "rank" "I" (.int (0 : Int32)) := D1 (Or.inr (hw _ (List.mem_of_getElem? (i := 53) rfl))) (ty := .int) (by decide)
  have F_turn_b1 : Fld Z h1 b1 "com/example/weighted_worlds/weightedworlds/Place$Turn" "turn" "I" (.int (0 : Int32)) := D1 (Or.inr (hw _ (List.mem_of_getElem? (i := 55) rfl))) (ty := .int) (by decide)
  have F_conjunct_b1 : Fld Z h1 b1 "com/example/weighted_worlds/weightedworlds/Place$Turn" "conjunct" "I" (.int (0 : Int32)) := D1 (Or.inr (hw _ (List.mem_of_getElem? (i := 57) rfl))) (ty := .int) (by decide)
  have F_made_b1 : Fld Z h1 b1 "com/example/weighted_worlds/weightedworlds/Place$Turn" "made" "I" (.int (0 : Int32)) := D1 (Or.inl (hw _ (List.mem_of_getElem? (i := 72) rfl))) (ty := .int) (by decide)
  refine own_st (T' := T1) (g' := (mkF m 3 #[.val (.ref a1)] [(.ref b1)])) (fun t9 k9 => st1 t9 k9) ?_
  refine own_st (T' := T1) (g' := (mkF m 4 #[.val (.ref a1)] [(.ref b1), (.ref b1)])) (fun t9 k9 => XS.dup X1.here hx rfl (hb hby d6_3) rfl rfl k9) ?_
  refine own_st (T' := T1) (g' := (mkF m 5 #[.val (.ref a1)] [(.ref a1), (.ref b1), (.ref b1)])) (fun t9 k9 => XS.aloadN X1.here hx rfl (hb hby d6_4) rfl rfl k9) ?_
  refine own_st (T' := T1) (g' := (mkF m 6 #[.val (.ref a1)] [(.int (0 : Int32)), (.ref a1), (.ref b1), (.ref b1)])) (fun t9 k9 => XS.iconst X1.here hx rfl (hb hby d6_5) k9) ?_
  refine own_st (T' := T1) (g' := (mkF m 7 #[.val (.ref a1)] [(.int (-1 : Int32)), (.int (0 : Int32)), (.ref a1), (.ref b1), (.ref b1)])) (fun t9 k9 => XS.iconst X1.here hx rfl (hb hby d6_6) k9) ?_
  obtain ⟨_, _, ⟨T2, L2, k2, n2⟩, -, X2, ⟨Lc2, hQ2, l2, y2, z2⟩, st2⟩ := own_specialRef X1 hx hZ (y := (⟨"com/example/weighted_worlds/weightedworlds/Place$Turn", "<init>", "(Lcom/example/weighted_worlds/weightedworlds/Place;II)V"⟩ : MethodName)) rfl hown (hw _ (List.mem_of_getElem? (i := 43) rfl)) (mvT hZ (hw _ (List.mem_of_getElem? (i := 44) rfl))) (mvT hZ (hw _ (List.mem_of_getElem? (i := 45) rfl))) (by decide) (own_back (W := 1) (rmT3 l Z a0 hw b1 a1 (0 : Int32) (-1 : Int32) .null (.int 0) (.int 0) (.int 0) (.int 0) h1 n0 Z1 A1 F_at_b1 F_rank_b1 F_turn_b1 F_conjunct_b1 F_made_b1 g_b1) hZ (hw _ (List.mem_of_getElem? (i := 45) rfl)) (hw _ (List.mem_of_getElem? (i := 42) rfl)) (by decide) (by decide)) (g := (mkF m 7 #[.val (.ref a1)] [(.int (-1 : Int32)), (.int (0 : Int32)), (.ref a1), (.ref b1), (.ref b1)])) rfl (by rw [hml]; rfl) (Steps.refl _) (a := b1) (argsL := [(.ref a1), (.int (0 : Int32)), (.int (-1 : Int32))]) (rest := [(.ref b1)]) (lenOf pd_6 rfl) rfl (by show 2 * 0 + _ ≤ _; exact Nat.le_of_eq rfl) (hb hby d6_7) (fun _ _ => ⟨rfl, e1, (Nat.le_of_ble_eq_true rfl), (Nat.le_of_ble_eq_true rfl)⟩)
  dsimp only [Pt.U, Pt.locs, Pt.cells, Pt.slots] at X2 l2 y2 z2 st2 hQ2
  subst l2 y2 z2
  obtain ⟨rfl, Nq2, Kq2, Eq2, Fat2, Frank2, Fturn2, Fconjunct2, Fmade2⟩ := hQ2
  have N2 := Fr.app N0 Nq2
  obtain ⟨h2, e2⟩ : ∃ z, T2.heap = z := ⟨_, rfl⟩
  rw [e2] at Kq2 Eq2 Fat2 Frank2 Fturn2 Fconjunct2 Fmade2
  have A1_3 := A1.keep Kq2
  have K2 := K1.trans Kq2 (allS (Or.inr sz_b1) all0)
  have Z2 : n0 ≤ h2.size := Nat.le_trans Z1 Kq2.1
  refine own_st (T' := T2) (g' := (mkF m 10 #[.val (.ref a1)] [(.ref b1)])) (fun t9 k9 => st2.trans k9) ?_
  refine own_ret (v := some (.ref b1)) hF X2 (own_some hret) hlk (fun fs hr => own_retA X2 hx hret rfl rfl (hb hby d6_10) hr) ?_ (by decide) (by decide)
  try rw [e2]
  exact ⟨b1, rfl, N2, K2, A1_3, Fat2, Fturn2⟩
theorem d10_0 : decode prog_15_method_4_code 0 = .ok (.new 39, 3) := by decide +kernel
theorem d10_3 : decode prog_15_method_4_code 3 = .ok (.dup, 1) := by decide +kernel
theorem d10_4 : decode prog_15_method_4_code 4 = .ok (.aload_n 0, 1) := by decide +kernel
theorem d10_5 : decode prog_15_method_4_code 5 = .ok (.iload_n 1, 1) := by decide +kernel
theorem d10_6 : decode prog_15_method_4_code 6 = .ok (.aload_n 0, 1) := by decide +kernel
theorem d10_7 : decode prog_15_method_4_code 7 = .ok (.dup, 1) := by decide +kernel
theorem d10_8 : decode prog_15_method_4_code 8 = .ok (.getfield 41, 3) := by decide +kernel
theorem d10_11 : decode prog_15_method_4_code 11 = .ok (.dup_x1, 1) := by decide +kernel
theorem d10_12 : decode prog_15_method_4_code 12 = .ok (.iconst 1, 1) := by decide +kernel
theorem d10_13 : decode prog_15_method_4_code 13 = .ok (.iadd, 1) := by decide +kernel
theorem d10_14 : decode prog_15_method_4_code 14 = .ok (.putfield 41, 3) := by decide +kernel
theorem d10_17 : decode prog_15_method_4_code 17 = .ok (.invokespecial 44, 3) := by decide +kernel
theorem d10_20 : decode prog_15_method_4_code 20 = .ok (.areturn, 1) := by decide +kernel
theorem pn_10 : plainFor (⟨"com/example/weighted_worlds/weightedworlds/Place", "turn", "(I)Lcom/example/weighted_worlds/weightedworlds/Place$Turn;"⟩ : MethodName) = true := plainFor_of_name (by first | (simp [plainName, overriddenIn]; done) | decide +kernel)
set_option maxRecDepth 65536 in
set_option maxHeartbeats 40000000 in
theorem rm10 (l : Launch) (Z : State) (a0 : Array Value) (hw : ∀ d ∈ tables_1, d.before a0 Z = true) (a1 : Addr) (p2 tn : Int32) (u0 u1 u2 u3 u4 u5 u6 : Value) (h0 : Heap) (n0 : Nat) (Z0 : n0 ≤ h0.size) (E1 : Exa Z h0 a1 "com/example/weighted_worlds/weightedworlds/Place") (U_at : Fld Z h0 a1 "com/example/weighted_worlds/weightedworlds/Place" "at" "Lcom/example/weighted_worlds/weightedworlds/Place;" u0) (U_depth : Fld Z h0 a1 "com/example/weighted_worlds/weightedworlds/Place" "depth" "I" u1) (U_jump : Fld Z h0 a1 "com/example/weighted_worlds/weightedworlds/Place" "jump" "Lcom/example/weighted_worlds/weightedworlds/Place;" u2) (U_rank : Fld Z h0 a1 "com/example/weighted_worlds/weightedworlds/Place" "rank" "I" u3) (U_turn : Fld Z h0 a1 "com/example/weighted_worlds/weightedworlds/Place" "turn" "I" u4) (U_conjunct : Fld Z h0 a1 "com/example/weighted_worlds/weightedworlds/Place" "conjunct" "I" u5) (U_made : Fld Z h0 a1 "com/example/weighted_worlds/weightedworlds/Place" "made" "I" u6) (U_turns : Fld Z h0 a1 "com/example/weighted_worlds/weightedworlds/Place" "turns" "I" (.int tn)) (g_a1 : n0 ≤ a1) :
    own_Met l Z (⟨"com/example/weighted_worlds/weightedworlds/Place", "turn", "(I)Lcom/example/weighted_worlds/weightedworlds/Place$Turn;"⟩ : MethodName) prog_15_method_4_code 2 (some (.object "com/example/weighted_worlds/weightedworlds/Place$Turn")) ({ frames := 3, cells := 1, slots := 5, locals := 44 } : Room) #[(.ref a1), (.int p2)] h0 (fun v h L => ∃ b, v = some (.ref b) ∧ Fr n0 L ∧ Keep h0 h [a1] ∧ h0.size ≤ b ∧ n0 ≤ b ∧ Exa Z h b "com/example/weighted_worlds/weightedworlds/Place$Turn" ∧ Fld Z h b "com/example/weighted_worlds/weightedworlds/Place$Turn" "at" "Lcom/example/weighted_worlds/weightedworlds/Place;" (.ref a1) ∧ Fld Z h b "com/example/weighted_worlds/weightedworlds/Place$Turn" "rank" "I" (.int p2) ∧ Fld Z h b "com/example/weighted_worlds/weightedworlds/Place$Turn" "turn" "I" (.int tn) ∧ Fld Z h b "com/example/weighted_worlds/weightedworlds/Place$Turn" "conjunct" "I" (.int (0 : Int32)) ∧ Fld Z h b "com/example/weighted_worlds/weightedworlds/Place$Turn" "made" "I" (.int (0 : Int32)) ∧ Fld Z h a1 "com/example/weighted_worlds/weightedworlds/Place" "at" "Lcom/example/weighted_worlds/weightedworlds/Place;" u0 ∧ Fld Z h a1 "com/example/weighted_worlds/weightedworlds/Place" "depth" "I" u1 ∧ Fld Z h a1 "com/example/weighted_worlds/weightedworlds/Place" "jump" "Lcom/example/weighted_worlds/weightedworlds/Place;" u2 ∧ Fld Z h a1 "com/example/weighted_worlds/weightedworlds/Place" "rank" "I" u3 ∧ Fld Z h a1 "com/example/weighted_worlds/weightedworlds/Place" "turn" "I" u4 ∧ Fld Z h a1 "com/example/weighted_worlds/weightedworlds/Place" "conjunct" "I" u5 ∧ Fld Z h a1 "com/example/weighted_worlds/weightedworlds/Place" "made" "I" u6) := by
  refine own_body pn_10 ?_
  intro p e s m below meth c T0 hZ hx hby hml hown hnm hret hlk X0 e0 F hF
  have N0 := Fr.nil n0
  have K0 := Keep.refl h0 [a1]
  refine own_cast (g' := (mkF m 0 #[.val (.ref a1), .val (.int p2)] [])) (by first | rfl | simp [entryFrame, mkF, argsToLocals, Value.category]) ?_
  obtain ⟨T1, h1, X1, e1, Ex1, A1, D1, -, st1⟩ := newO X0 hx hZ hown (hw _ (List.mem_of_getElem? (i := 40) rfl)) (hw _ (List.mem_of_getElem? (i := 41) rfl)) (hw _ (List.mem_of_getElem? (i := 42) rfl)) e0 (g := (mkF m 0 #[.val (.ref a1), .val (.int p2)] [])) rfl (hb hby d10_0) (by decide) (by decide)
  obtain ⟨b1, gb1⟩ : ∃ z, z = h0.size := ⟨_, rfl⟩
  have ne_a1_b1 : a1 ≠ b1 := own_ne gb1 E1.lt
  have g_b1 : n0 ≤ b1 := gb1 ▸ Z0
  have sz_b1 : h0.size ≤ b1 := gb1 ▸ K0.1
  rw [← gb1] at A1 D1 st1
  have E1_2 := E1.ext Ex1
  have U_at_3 := U_at.ext Ex1
  have U_depth_4 := U_depth.ext Ex1
  have U_jump_5 := U_jump.ext Ex1
  have U_rank_6 := U_rank.ext Ex1
  have U_turn_7 := U_turn.ext Ex1
  have U_conjunct_8 := U_conjunct.ext Ex1
  have U_made_9 := U_made.ext Ex1
  have U_turns_10 := U_turns.ext Ex1
  have K1 := K0.ext Ex1
  have Z1 : n0 ≤ h1.size := Nat.le_trans Z0 Ex1.1
  have F_at_b1 : Fld Z h1 b1 "com/example/weighted_worlds/weightedworlds/Place$Turn" "at" "Lcom/example/weighted_worlds/weightedworlds/Place;" .null := D1 (Or.inr (hw _ (List.mem_of_getElem? (i := 51) rfl))) (ty := (.object "com/example/weighted_worlds/weightedworlds/Place")) (by decide)
  have F_rank_b1 : Fld Z h1 b1 "com/example/weighted_worlds/weightedworlds/Place$Turn" "rank" "I" (.int (0 : Int32)) := D1 (Or.inr (hw _ (List.mem_of_getElem? (i := 53) rfl))) (ty := .int) (by decide)
  have F_turn_b1 : Fld Z h1 b1 "com/example/weighted_worlds/weightedworlds/Place$Turn" "turn" "I" (.int (0 : Int32)) := D1 (Or.inr (hw _ (List.mem_of_getElem? (i := 55) rfl))) (ty := .int) (by decide)
  have F_conjunct_b1 : Fld Z h1 b1 "com/example/weighted_worlds/weightedworlds/Place$Turn" "conjunct" "I" (.int (0 : Int32)) := D1 (Or.inr (hw _ (List.mem_of_getElem? (i := 57) rfl))) (ty := .int) (by decide)
  have F_made_b1 : Fld Z h1 b1 "com/example/weighted_worlds/weightedworlds/Place$Turn" "made" "I" (.int (0 : Int32)) := D1 (Or.inl (hw _ (List.mem_of_getElem? (i := 72) rfl))) (ty := .int) (by decide)
  refine own_st (T' := T1) (g' := (mkF m 3 #[.val (.ref a1), .val (.int p2)] [(.ref b1)])) (fun t9 k9 => st1 t9 k9) ?_
  refine own_st (T' := T1) (g' := (mkF m 4 #[.val (.ref a1), .val (.int p2)] [(.ref b1), (.ref b1)])) (fun t9 k9 => XS.dup X1.here hx rfl (hb hby d10_3) rfl rfl k9) ?_
  refine own_st (T' := T1) (g' := (mkF m 5 #[.val (.ref a1), .val (.int p2)] [(.ref a1), (.ref b1), (.ref b1)])) (fun t9 k9 => XS.aloadN X1.here hx rfl (hb hby d10_4) rfl rfl k9) ?_
  refine own_st (T' := T1) (g' := (mkF m 6 #[.val (.ref a1), .val (.int p2)] [(.int p2), (.ref a1), (.ref b1), (.ref b1)])) (fun t9 k9 => XS.iloadN X1.here hx rfl (hb hby d10_5) rfl k9) ?_
  refine own_st (T' := T1) (g' := (mkF m 7 #[.val (.ref a1), .val (.int p2)] [(.ref a1), (.int p2), (.ref a1), (.ref b1), (.ref b1)])) (fun t9 k9 => XS.aloadN X1.here hx rfl (hb hby d10_6) rfl rfl k9) ?_
  refine own_st (T' := T1) (g' := (mkF m 8 #[.val (.ref a1), .val (.int p2)] [(.ref a1), (.ref a1), (.int p2), (.ref a1), (.ref b1), (.ref b1)])) (fun t9 k9 => XS.dup X1.here hx rfl (hb hby d10_7) rfl rfl k9) ?_
  obtain ⟨T11, X11, e11, st11⟩ := getF X1 hx hZ hown (host := "") (Or.inl (hw _ (List.mem_of_getElem? (i := 68) rfl))) Via.refl e1 U_turns_10 (g := (mkF m 8 #[.val (.ref a1), .val (.int p2)] [(.ref a1), (.ref a1), (.int p2), (.ref a1), (.ref b1), (.ref b1)])) rfl rfl (hb hby d10_8)
  refine own_st (T' := T11) (g' := (mkF m 11 #[.val (.ref a1), .val (.int p2)] [(.int tn), (.ref a1), (.int p2), (.ref a1), (.ref b1), (.ref b1)])) (fun t9 k9 => st11 t9 k9) ?_
  refine own_st (T' := T11) (g' := (mkF m 12 #[.val (.ref a1), .val (.int p2)] [(.int tn), (.ref a1), (.int tn), (.int p2), (.ref a1), (.ref b1), (.ref b1)])) (fun t9 k9 => XS.dupX1 X11.here hx rfl (hb hby d10_11) rfl rfl rfl k9) ?_
  refine own_st (T' := T11) (g' := (mkF m 13 #[.val (.ref a1), .val (.int p2)] [(.int (1 : Int32)), (.int tn), (.ref a1), (.int tn), (.int p2), (.ref a1), (.ref b1), (.ref b1)])) (fun t9 k9 => XS.iconst X11.here hx rfl (hb hby d10_12) k9) ?_
  refine own_st (T' := T11) (g' := (mkF m 14 #[.val (.ref a1), .val (.int p2)] [(.int (tn + (1 : Int32))), (.ref a1), (.int tn), (.int p2), (.ref a1), (.ref b1), (.ref b1)])) (fun t9 k9 => XS.iadd X11.here hx rfl (hb hby d10_13) rfl k9) ?_
  obtain ⟨T12, h12, X12, e12, W12, st12⟩ := putF X11 hx hZ hown (host := "") (Or.inl (hw _ (List.mem_of_getElem? (i := 68) rfl))) Via.refl e11 U_turns_10 E1_2 (Or.inl (hw _ (List.mem_of_getElem? (i := 69) rfl))) (hw _ (List.mem_of_getElem? (i := 5) rfl)) (ty := .int) (by decide) rfl rfl (g := (mkF m 14 #[.val (.ref a1), .val (.int p2)] [(.int (tn + (1 : Int32))), (.ref a1), (.int tn), (.int p2), (.ref a1), (.ref b1), (.ref b1)])) rfl rfl (hb hby d10_14)
  have Fw12 := U_turns_10.same W12
  have E1_13 := E1_2.wr W12
  have U_at_14 := U_at_3.other W12 (Or.inr (slot_ne (Or.inr (hw _ (List.mem_of_getElem? (i := 13) rfl))) (Or.inl (hw _ (List.mem_of_getElem? (i := 69) rfl))) (by decide) (t := (.object "com/example/weighted_worlds/weightedworlds/Place")) (t' := .int) (by decide) (by decide)))
  have U_depth_15 := U_depth_4.other W12 (Or.inr (slot_ne (Or.inr (hw _ (List.mem_of_getElem? (i := 15) rfl))) (Or.inl (hw _ (List.mem_of_getElem? (i := 69) rfl))) (by decide) (t := .int) (t' := .int) (by decide) (by decide)))
  have U_jump_16 := U_jump_5.other W12 (Or.inr (slot_ne (Or.inr (hw _ (List.mem_of_getElem? (i := 17) rfl))) (Or.inl (hw _ (List.mem_of_getElem? (i := 69) rfl))) (by decide) (t := (.object "com/example/weighted_worlds/weightedworlds/Place")) (t' := .int) (by decide) (by decide)))
  have U_rank_17 := U_rank_6.other W12 (Or.inr (slot_ne (Or.inr (hw _ (List.mem_of_getElem? (i := 19) rfl))) (Or.inl (hw _ (List.mem_of_getElem? (i := 69) rfl))) (by decide) (t := .int) (t' := .int) (by decide) (by decide)))
  have U_turn_18 := U_turn_7.other W12 (Or.inr (slot_ne (Or.inr (hw _ (List.mem_of_getElem? (i := 21) rfl))) (Or.inl (hw _ (List.mem_of_getElem? (i := 69) rfl))) (by decide) (t := .int) (t' := .int) (by decide) (by decide)))
  have U_conjunct_19 := U_conjunct_8.other W12 (Or.inr (slot_ne (Or.inr (hw _ (List.mem_of_getElem? (i := 23) rfl))) (Or.inl (hw _ (List.mem_of_getElem? (i := 69) rfl))) (by decide) (t := .int) (t' := .int) (by decide) (by decide)))
  have U_made_20 := U_made_9.other W12 (Or.inr (slot_ne (Or.inr (hw _ (List.mem_of_getElem? (i := 25) rfl))) (Or.inl (hw _ (List.mem_of_getElem? (i := 69) rfl))) (by decide) (t := .int) (t' := .int) (by decide) (by decide)))
  have A1_21 := A1.wr W12
  have F_at_b1_22 := F_at_b1.other W12 (Or.inl (Ne.symm ne_a1_b1))
  have F_rank_b1_23 := F_rank_b1.other W12 (Or.inl (Ne.symm ne_a1_b1))
  have F_turn_b1_24 := F_turn_b1.other W12 (Or.inl (Ne.symm ne_a1_b1))
  have F_conjunct_b1_25 := F_conjunct_b1.other W12 (Or.inl (Ne.symm ne_a1_b1))
  have F_made_b1_26 := F_made_b1.other W12 (Or.inl (Ne.symm ne_a1_b1))
  have K12 := K1.wr W12 (Or.inl (by simp))
  have N12 := Fr.snoc X12 N0 g_a1
  have Z12 : n0 ≤ h12.size := by rw [W12.size]; exact Z1
  refine own_st (T' := T12) (g' := (mkF m 17 #[.val (.ref a1), .val (.int p2)] [(.int tn), (.int p2), (.ref a1), (.ref b1), (.ref b1)])) (fun t9 k9 => st12 t9 k9) ?_
  obtain ⟨_, _, ⟨T27, L27, k27, n27⟩, -, X27, ⟨Lc27, hQ27, l27, y27, z27⟩, st27⟩ := own_specialRef X12 hx hZ (y := (⟨"com/example/weighted_worlds/weightedworlds/Place$Turn", "<init>", "(Lcom/example/weighted_worlds/weightedworlds/Place;II)V"⟩ : MethodName)) rfl hown (hw _ (List.mem_of_getElem? (i := 43) rfl)) (mvT hZ (hw _ (List.mem_of_getElem? (i := 44) rfl))) (mvT hZ (hw _ (List.mem_of_getElem? (i := 45) rfl))) (by decide) (own_back (W := 1) (rmT3 l Z a0 hw b1 a1 p2 tn .null (.int 0) (.int 0) (.int 0) (.int 0) h12 n0 Z12 A1_21 F_at_b1_22 F_rank_b1_23 F_turn_b1_24 F_conjunct_b1_25 F_made_b1_26 g_b1) hZ (hw _ (List.mem_of_getElem? (i := 45) rfl)) (hw _ (List.mem_of_getElem? (i := 42) rfl)) (by decide) (by decide)) (g := (mkF m 17 #[.val (.ref a1), .val (.int p2)] [(.int tn), (.int p2), (.ref a1), (.ref b1), (.ref b1)])) rfl (by rw [hml]; rfl) (Steps.refl _) (a := b1) (argsL := [(.ref a1), (.int p2), (.int tn)]) (rest := [(.ref b1)]) (lenOf pd_6 rfl) rfl (by show 2 * 0 + _ ≤ _; exact Nat.le_of_eq rfl) (hb hby d10_17) (fun _ _ => ⟨rfl, e12, (Nat.le_of_ble_eq_true rfl), (Nat.le_of_ble_eq_true rfl)⟩)
  dsimp only [Pt.U, Pt.locs, Pt.cells, Pt.slots] at X27 l27 y27 z27 st27 hQ27
  subst l27 y27 z27
  obtain ⟨rfl, Nq27, Kq27, Eq27, Fat27, Frank27, Fturn27, Fconjunct27, Fmade27⟩ := hQ27
  have N27 := Fr.app N12 Nq27
  obtain ⟨h27, e27⟩ : ∃ z, T27.heap = z := ⟨_, rfl⟩
  rw [e27] at Kq27 Eq27 Fat27 Frank27 Fturn27 Fconjunct27 Fmade27
  have E1_28 := E1_13.keep Kq27
  have U_at_29 := U_at_14.keep Kq27 (ninS ne_a1_b1 nin0)
  have U_depth_30 := U_depth_15.keep Kq27 (ninS ne_a1_b1 nin0)
  have U_jump_31 := U_jump_16.keep Kq27 (ninS ne_a1_b1 nin0)
  have U_rank_32 := U_rank_17.keep Kq27 (ninS ne_a1_b1 nin0)
  have U_turn_33 := U_turn_18.keep Kq27 (ninS ne_a1_b1 nin0)
  have U_conjunct_34 := U_conjunct_19.keep Kq27 (ninS ne_a1_b1 nin0)
  have U_made_35 := U_made_20.keep Kq27 (ninS ne_a1_b1 nin0)
  have Fw12_36 := Fw12.keep Kq27 (ninS ne_a1_b1 nin0)
  have A1_37 := A1_21.keep Kq27
  have K27 := K12.trans Kq27 (allS (Or.inr sz_b1) all0)
  have Z27 : n0 ≤ h27.size := Nat.le_trans Z12 Kq27.1
  refine own_st (T' := T27) (g' := (mkF m 20 #[.val (.ref a1), .val (.int p2)] [(.ref b1)])) (fun t9 k9 => st27.trans k9) ?_
  refine own_ret (v := some (.ref b1)) hF X27 (own_some hret) hlk (fun fs hr => own_retA X27 hx hret rfl rfl (hb hby d10_20) hr) ?_ (by decide) (by decide)
  try rw [e27]
  exact ⟨b1, rfl, N27, K27, sz_b1, g_b1, A1_37, Fat27, Frank27, Fturn27, Fconjunct27, Fmade27, U_at_29, U_depth_30, U_jump_31, U_rank_32, U_turn_33, U_conjunct_34, U_made_35⟩
theorem d9_0 : decode prog_16_method_4_code 0 = .ok (.aload_n 0, 1) := by decide +kernel
theorem d9_1 : decode prog_16_method_4_code 1 = .ok (.getfield 20, 3) := by decide +kernel
theorem d9_4 : decode prog_16_method_4_code 4 = .ok (.iconst (-1), 1) := by decide +kernel
theorem d9_5 : decode prog_16_method_4_code 5 = .ok (.if_icmp .ne 10, 3) := by decide +kernel
theorem d9_8 : decode prog_16_method_4_code 8 = .ok (.aload_n 0, 1) := by decide +kernel
theorem d9_9 : decode prog_16_method_4_code 9 = .ok (.getfield 12, 3) := by decide +kernel
theorem d9_12 : decode prog_16_method_4_code 12 = .ok (.goto 37, 3) := by decide +kernel
theorem d9_15 : decode prog_16_method_4_code 15 = .ok (.new 26, 3) := by decide +kernel
theorem d9_18 : decode prog_16_method_4_code 18 = .ok (.dup, 1) := by decide +kernel
theorem d9_19 : decode prog_16_method_4_code 19 = .ok (.aload_n 0, 1) := by decide +kernel
theorem d9_20 : decode prog_16_method_4_code 20 = .ok (.getfield 12, 3) := by decide +kernel
theorem d9_23 : decode prog_16_method_4_code 23 = .ok (.aload_n 0, 1) := by decide +kernel
theorem d9_24 : decode prog_16_method_4_code 24 = .ok (.getfield 16, 3) := by decide +kernel
theorem d9_27 : decode prog_16_method_4_code 27 = .ok (.aload_n 0, 1) := by decide +kernel
theorem d9_28 : decode prog_16_method_4_code 28 = .ok (.getfield 20, 3) := by decide +kernel
theorem d9_31 : decode prog_16_method_4_code 31 = .ok (.aload_n 0, 1) := by decide +kernel
theorem d9_32 : decode prog_16_method_4_code 32 = .ok (.getfield 23, 3) := by decide +kernel
theorem d9_35 : decode prog_16_method_4_code 35 = .ok (.aload_n 0, 1) := by decide +kernel
theorem d9_36 : decode prog_16_method_4_code 36 = .ok (.dup, 1) := by decide +kernel
theorem d9_37 : decode prog_16_method_4_code 37 = .ok (.getfield 28, 3) := by decide +kernel
theorem d9_40 : decode prog_16_method_4_code 40 = .ok (.dup_x1, 1) := by decide +kernel
theorem d9_41 : decode prog_16_method_4_code 41 = .ok (.iconst 1, 1) := by decide +kernel
theorem d9_42 : decode prog_16_method_4_code 42 = .ok (.iadd, 1) := by decide +kernel
theorem d9_43 : decode prog_16_method_4_code 43 = .ok (.putfield 28, 3) := by decide +kernel
theorem d9_46 : decode prog_16_method_4_code 46 = .ok (.invokespecial 31, 3) := by decide +kernel
theorem d9_49 : decode prog_16_method_4_code 49 = .ok (.areturn, 1) := by decide +kernel
theorem pn_9 : plainFor (⟨"com/example/weighted_worlds/weightedworlds/Place$Turn", "next", "()Lcom/example/weighted_worlds/weightedworlds/Place;"⟩ : MethodName) = true := plainFor_of_name (by first | (simp [plainName, overriddenIn]; done) | decide +kernel)
set_option maxRecDepth 65536 in
set_option maxHeartbeats 40000000 in
theorem rmNr (l : Launch) (Z : State) (a0 : Array Value) (hw : ∀ d ∈ tables_1, d.before a0 Z = true) (a1 a2 : Addr) (h0 : Heap) (n0 : Nat) (Z0 : n0 ≤ h0.size) (F1 : Fld Z h0 a1 "com/example/weighted_worlds/weightedworlds/Place$Turn" "at" "Lcom/example/weighted_worlds/weightedworlds/Place;" (.ref a2)) (F2 : Fld Z h0 a1 "com/example/weighted_worlds/weightedworlds/Place$Turn" "turn" "I" (.int (-1 : Int32))) :
    own_Met l Z (⟨"com/example/weighted_worlds/weightedworlds/Place$Turn", "next", "()Lcom/example/weighted_worlds/weightedworlds/Place;"⟩ : MethodName) prog_16_method_4_code 1 (some (.object "com/example/weighted_worlds/weightedworlds/Place")) ({ frames := 0, cells := 0, slots := 0, locals := 0 } : Room) #[(.ref a1)] h0 (fun v h L => v = some (.ref a2) ∧ Fr n0 L ∧ h = h0) := by
  refine own_body pn_9 ?_
  intro p e s m below meth c T0 hZ hx hby hml hown hnm hret hlk X0 e0 F hF
  have N0 := Fr.nil n0
  have K0 := Keep.refl h0 []
  refine own_cast (g' := (mkF m 0 #[.val (.ref a1)] [])) (by first | rfl | simp [entryFrame, mkF, argsToLocals, Value.category]) ?_
  refine own_st (T' := T0) (g' := (mkF m 1 #[.val (.ref a1)] [(.ref a1)])) (fun t9 k9 => XS.aloadN X0.here hx rfl (hb hby d9_0) rfl rfl k9) ?_
  obtain ⟨T1, X1, e1, st1⟩ := getF X0 hx hZ hown (host := "") (Or.inl (hw _ (List.mem_of_getElem? (i := 54) rfl))) Via.refl e0 F2 (g := (mkF m 1 #[.val (.ref a1)] [(.ref a1)])) rfl rfl (hb hby d9_1)
  refine own_st (T' := T1) (g' := (mkF m 4 #[.val (.ref a1)] [(.int (-1 : Int32))])) (fun t9 k9 => st1 t9 k9) ?_
  refine own_st (T' := T1) (g' := (mkF m 5 #[.val (.ref a1)] [(.int (-1 : Int32)), (.int (-1 : Int32))])) (fun t9 k9 => XS.iconst X1.here hx rfl (hb hby d9_4) k9) ?_
  refine own_st (T' := T1) (g' := (mkF m 8 #[.val (.ref a1)] [])) (fun t9 k9 => XS.icmpNo X1.here hx rfl (hb hby d9_5) rfl (teq rfl).2 k9) ?_
  refine own_st (T' := T1) (g' := (mkF m 9 #[.val (.ref a1)] [(.ref a1)])) (fun t9 k9 => XS.aloadN X1.here hx rfl (hb hby d9_8) rfl rfl k9) ?_
  obtain ⟨T2, X2, e2, st2⟩ := getF X1 hx hZ hown (host := "") (Or.inl (hw _ (List.mem_of_getElem? (i := 50) rfl))) Via.refl e1 F1 (g := (mkF m 9 #[.val (.ref a1)] [(.ref a1)])) rfl rfl (hb hby d9_9)
  refine own_st (T' := T2) (g' := (mkF m 12 #[.val (.ref a1)] [(.ref a2)])) (fun t9 k9 => st2 t9 k9) ?_
  refine own_st (T' := T2) (g' := (mkF m 49 #[.val (.ref a1)] [(.ref a2)])) (fun t9 k9 => XS.goto X2.here hx rfl (pc0 := 12) (pc' := 49) rfl (hb hby d9_12) (by decide) (by decide) k9) ?_
  refine own_ret (v := some (.ref a2)) hF X2 (own_some hret) hlk (fun fs hr => own_retA X2 hx hret rfl rfl (hb hby d9_49) hr) ?_ (by decide) (by decide)
  try rw [e2]
  exact ⟨rfl, N0, rfl⟩
set_option maxRecDepth 65536 in
set_option maxHeartbeats 40000000 in
theorem rmNc (l : Launch) (Z : State) (a0 : Array Value) (hw : ∀ d ∈ tables_1, d.before a0 Z = true) (a1 a2 f1 f2 : Addr) (dp df dg rk tn cj md : Int32) (h0 : Heap) (n0 : Nat) (Z0 : n0 ≤ h0.size) (E1 : Exa Z h0 a1 "com/example/weighted_worlds/weightedworlds/Place$Turn") (U_at : Fld Z h0 a1 "com/example/weighted_worlds/weightedworlds/Place$Turn" "at" "Lcom/example/weighted_worlds/weightedworlds/Place;" (.ref a2)) (U_rank : Fld Z h0 a1 "com/example/weighted_worlds/weightedworlds/Place$Turn" "rank" "I" (.int rk)) (U_turn : Fld Z h0 a1 "com/example/weighted_worlds/weightedworlds/Place$Turn" "turn" "I" (.int tn)) (U_conjunct : Fld Z h0 a1 "com/example/weighted_worlds/weightedworlds/Place$Turn" "conjunct" "I" (.int cj)) (U_made : Fld Z h0 a1 "com/example/weighted_worlds/weightedworlds/Place$Turn" "made" "I" (.int md)) (ht : ¬ tn = (-1 : Int32)) (g_a1 : n0 ≤ a1) (J1 : Fld Z h0 a2 "com/example/weighted_worlds/weightedworlds/Place" "depth" "I" (.int dp)) (J2 : Fld Z h0 a2 "com/example/weighted_worlds/weightedworlds/Place" "jump" "Lcom/example/weighted_worlds/weightedworlds/Place;" (.ref f1)) (J3 : Fld Z h0 f1 "com/example/weighted_worlds/weightedworlds/Place" "depth" "I" (.int df)) (J4 : Fld Z h0 f1 "com/example/weighted_worlds/weightedworlds/Place" "jump" "Lcom/example/weighted_worlds/weightedworlds/Place;" (.ref f2)) (J5 : Fld Z h0 f2 "com/example/weighted_worlds/weightedworlds/Place" "depth" "I" (.int dg)) (n2 : a2 ≠ a1) (n3 : f1 ≠ a1) (n4 : f2 ≠ a1) :
    own_Met l Z (⟨"com/example/weighted_worlds/weightedworlds/Place$Turn", "next", "()Lcom/example/weighted_worlds/weightedworlds/Place;"⟩ : MethodName) prog_16_method_4_code 1 (some (.object "com/example/weighted_worlds/weightedworlds/Place")) ({ frames := 2, cells := 1, slots := 8, locals := 33 } : Room) #[(.ref a1)] h0 (fun v h L => ∃ b r, v = some (.ref b) ∧ Fr n0 L ∧ Keep h0 h [a1] ∧ h0.size ≤ b ∧ n0 ≤ b ∧ Exa Z h b "com/example/weighted_worlds/weightedworlds/Place" ∧ Fld Z h b "com/example/weighted_worlds/weightedworlds/Place" "at" "Lcom/example/weighted_worlds/weightedworlds/Place;" (.ref a2) ∧ Fld Z h b "com/example/weighted_worlds/weightedworlds/Place" "depth" "I" (.int (dp + (1 : Int32))) ∧ Fld Z h b "com/example/weighted_worlds/weightedworlds/Place" "jump" "Lcom/example/weighted_worlds/weightedworlds/Place;" (.ref r) ∧ Fld Z h b "com/example/weighted_worlds/weightedworlds/Place" "rank" "I" (.int rk) ∧ Fld Z h b "com/example/weighted_worlds/weightedworlds/Place" "turn" "I" (.int tn) ∧ Fld Z h b "com/example/weighted_worlds/weightedworlds/Place" "conjunct" "I" (.int cj) ∧ Fld Z h b "com/example/weighted_worlds/weightedworlds/Place" "made" "I" (.int md) ∧ Fld Z h b "com/example/weighted_worlds/weightedworlds/Place" "turns" "I" (.int (0 : Int32)) ∧ ((dp - df = df - dg ∧ r = f2) ∨ (¬ dp - df = df - dg ∧ r = a2))) := by
  refine own_body pn_9 ?_
  intro p e s m below meth c T0 hZ hx hby hml hown hnm hret hlk X0 e0 F hF
  have N0 := Fr.nil n0
  have K0 := Keep.refl h0 [a1]
  refine own_cast (g' := (mkF m 0 #[.val (.ref a1)] [])) (by first | rfl | simp [entryFrame, mkF, argsToLocals, Value.category]) ?_
  refine own_st (T' := T0) (g' := (mkF m 1 #[.val (.ref a1)] [(.ref a1)])) (fun t9 k9 => XS.aloadN X0.here hx rfl (hb hby d9_0) rfl rfl k9) ?_
  obtain ⟨T1, X1, e1, st1⟩ := getF X0 hx hZ hown (host := "") (Or.inl (hw _ (List.mem_of_getElem? (i := 54) rfl))) Via.refl e0 U_turn (g := (mkF m 1 #[.val (.ref a1)] [(.ref a1)])) rfl rfl (hb hby d9_1)
  refine own_st (T' := T1) (g' := (mkF m 4 #[.val (.ref a1)] [(.int tn)])) (fun t9 k9 => st1 t9 k9) ?_
  refine own_st (T' := T1) (g' := (mkF m 5 #[.val (.ref a1)] [(.int (-1 : Int32)), (.int tn)])) (fun t9 k9 => XS.iconst X1.here hx rfl (hb hby d9_4) k9) ?_
  refine own_st (T' := T1) (g' := (mkF m 15 #[.val (.ref a1)] [])) (fun t9 k9 => XS.icmpYes X1.here hx rfl (pc0 := 5) (pc' := 15) rfl (hb hby d9_5) rfl (feq ht).2 (by decide) (by decide) k9) ?_
  obtain ⟨T2, h2, X2, e2, Ex2, A2, D2, -, st2⟩ := newO X1 hx hZ hown (hw _ (List.mem_of_getElem? (i := 70) rfl)) (hw _ (List.mem_of_getElem? (i := 5) rfl)) (hw _ (List.mem_of_getElem? (i := 2) rfl)) e1 (g := (mkF m 15 #[.val (.ref a1)] [])) rfl (hb hby d9_15) (by decide) (by decide)
  obtain ⟨b2, gb2⟩ : ∃ z, z = h0.size := ⟨_, rfl⟩
  have ne_a1_b2 : a1 ≠ b2 := own_ne gb2 E1.lt
  have ne_a2_b2 : a2 ≠ b2 := own_ne gb2 J1.lt
  have ne_f1_b2 : f1 ≠ b2 := own_ne gb2 J3.lt
  have ne_f2_b2 : f2 ≠ b2 := own_ne gb2 J5.lt
  have g_b2 : n0 ≤ b2 := gb2 ▸ Z0
  have sz_b2 : h0.size ≤ b2 := gb2 ▸ K0.1
  rw [← gb2] at A2 D2 st2
  have E1_3 := E1.ext Ex2
  have U_at_4 := U_at.ext Ex2
  have U_rank_5 := U_rank.ext Ex2
  have U_turn_6 := U_turn.ext Ex2
  have U_conjunct_7 := U_conjunct.ext Ex2
  have U_made_8 := U_made.ext Ex2
  have J1_9 := J1.ext Ex2
  have J2_10 := J2.ext Ex2
  have J3_11 := J3.ext Ex2
  have J4_12 := J4.ext Ex2
  have J5_13 := J5.ext Ex2
  have K2 := K0.ext Ex2
  have Z2 : n0 ≤ h2.size := Nat.le_trans Z0 Ex2.1
  have F_at_b2 : Fld Z h2 b2 "com/example/weighted_worlds/weightedworlds/Place" "at" "Lcom/example/weighted_worlds/weightedworlds/Place;" .null := D2 (Or.inr (hw _ (List.mem_of_getElem? (i := 13) rfl))) (ty := (.object "com/example/weighted_worlds/weightedworlds/Place")) (by decide)
  have F_depth_b2 : Fld Z h2 b2 "com/example/weighted_worlds/weightedworlds/Place" "depth" "I" (.int (0 : Int32)) := D2 (Or.inr (hw _ (List.mem_of_getElem? (i := 15) rfl))) (ty := .int) (by decide)
  have F_jump_b2 : Fld Z h2 b2 "com/example/weighted_worlds/weightedworlds/Place" "jump" "Lcom/example/weighted_worlds/weightedworlds/Place;" .null := D2 (Or.inr (hw _ (List.mem_of_getElem? (i := 17) rfl))) (ty := (.object "com/example/weighted_worlds/weightedworlds/Place")) (by decide)
  have F_rank_b2 : Fld Z h2 b2 "com/example/weighted_worlds/weightedworlds/Place" "rank" "I" (.int (0 : Int32)) := D2 (Or.inr (hw _ (List.mem_of_getElem? (i := 19) rfl))) (ty := .int) (by decide)
  have F_turn_b2 : Fld Z h2 b2 "com/example/weighted_worlds/weightedworlds/Place" "turn" "I" (.int (0 : Int32)) := D2 (Or.inr (hw _ (List.mem_of_getElem? (i := 21) rfl))) (ty := .int) (by decide)
  have F_conjunct_b2 : Fld Z h2 b2 "com/example/weighted_worlds/weightedworlds/Place" "conjunct" "I" (.int (0 : Int32)) := D2 (Or.inr (hw _ (List.mem_of_getElem? (i := 23) rfl))) (ty := .int) (by decide)
  have F_made_b2 : Fld Z h2 b2 "com/example/weighted_worlds/weightedworlds/Place" "made" "I" (.int (0 : Int32)) := D2 (Or.inr (hw _ (List.mem_of_getElem? (i := 25) rfl))) (ty := .int) (by decide)
  have F_turns_b2 : Fld Z h2 b2 "com/example/weighted_worlds/weightedworlds/Place" "turns" "I" (.int (0 : Int32)) := D2 (Or.inl (hw _ (List.mem_of_getElem? (i := 69) rfl))) (ty := .int) (by decide)
  refine own_st (T' := T2) (g' := (mkF m 18 #[.val (.ref a1)] [(.ref b2)])) (fun t9 k9 => st2 t9 k9) ?_
  refine own_st (T' := T2) (g' := (mkF m 19 #[.val (.ref a1)] [(.ref b2), (.ref b2)])) (fun t9 k9 => XS.dup X2.here hx rfl (hb hby d9_18) rfl rfl k9) ?_
  refine own_st (T' := T2) (g' := (mkF m 20 #[.val (.ref a1)] [(.ref a1), (.ref b2), (.ref b2)])) (fun t9 k9 => XS.aloadN X2.here hx rfl (hb hby d9_19) rfl rfl k9) ?_
  obtain ⟨T14, X14, e14, st14⟩ := getF X2 hx hZ hown (host := "") (Or.inl (hw _ (List.mem_of_getElem? (i := 50) rfl))) Via.refl e2 U_at_4 (g := (mkF m 20 #[.val (.ref a1)] [(.ref a1), (.ref b2), (.ref b2)])) rfl rfl (hb hby d9_20)
  refine own_st (T' := T14) (g' := (mkF m 23 #[.val (.ref a1)] [(.ref a2), (.ref b2), (.ref b2)])) (fun t9 k9 => st14 t9 k9) ?_
  refine own_st (T' := T14) (g' := (mkF m 24 #[.val (.ref a1)] [(.ref a1), (.ref a2), (.ref b2), (.ref b2)])) (fun t9 k9 => XS.aloadN X14.here hx rfl (hb hby d9_23) rfl rfl k9) ?_
  obtain ⟨T15, X15, e15, st15⟩ := getF X14 hx hZ hown (host := "") (Or.inl (hw _ (List.mem_of_getElem? (i := 52) rfl))) Via.refl e14 U_rank_5 (g := (mkF m 24 #[.val (.ref a1)] [(.ref a1), (.ref a2), (.ref b2), (.ref b2)])) rfl rfl (hb hby d9_24)
  refine own_st (T' := T15) (g' := (mkF m 27 #[.val (.ref a1)] [(.int rk), (.ref a2), (.ref b2), (.ref b2)])) (fun t9 k9 => st15 t9 k9) ?_
  refine own_st (T' := T15) (g' := (mkF m 28 #[.val (.ref a1)] [(.ref a1), (.int rk), (.ref a2), (.ref b2), (.ref b2)])) (fun t9 k9 => XS.aloadN X15.here hx rfl (hb hby d9_27) rfl rfl k9) ?_
  obtain ⟨T16, X16, e16, st16⟩ := getF X15 hx hZ hown (host := "") (Or.inl (hw _ (List.mem_of_getElem? (i := 54) rfl))) Via.refl e15 U_turn_6 (g := (mkF m 28 #[.val (.ref a1)] [(.ref a1), (.int rk), (.ref a2), (.ref b2), (.ref b2)])) rfl rfl (hb hby d9_28)
  refine own_st (T' := T16) (g' := (mkF m 31 #[.val (.ref a1)] [(.int tn), (.int rk), (.ref a2), (.ref b2), (.ref b2)])) (fun t9 k9 => st16 t9 k9) ?_
  refine own_st (T' := T16) (g' := (mkF m 32 #[.val (.ref a1)] [(.ref a1), (.int tn), (.int rk), (.ref a2), (.ref b2), (.ref b2)])) (fun t9 k9 => XS.aloadN X16.here hx rfl (hb hby d9_31) rfl rfl k9) ?_
  obtain ⟨T17, X17, e17, st17⟩ := getF X16 hx hZ hown (host := "") (Or.inl (hw _ (List.mem_of_getElem? (i := 56) rfl))) Via.refl e16 U_conjunct_7 (g := (mkF m 32 #[.val (.ref a1)] [(.ref a1), (.int tn), (.int rk), (.ref a2), (.ref b2), (.ref b2)])) rfl rfl (hb hby d9_32)
  refine own_st (T' := T17) (g' := (mkF m 35 #[.val (.ref a1)] [(.int cj), (.int tn), (.int rk), (.ref a2), (.ref b2), (.ref b2)])) (fun t9 k9 => st17 t9 k9) ?_
  refine own_st (T' := T17) (g' := (mkF m 36 #[.val (.ref a1)] [(.ref a1), (.int cj), (.int tn), (.int rk), (.ref a2), (.ref b2), (.ref b2)])) (fun t9 k9 => XS.aloadN X17.here hx rfl (hb hby d9_35) rfl rfl k9) ?_
  refine own_st (T' := T17) (g' := (mkF m 37 #[.val (.ref a1)] [(.ref a1), (.ref a1), (.int cj), (.int tn), (.int rk), (.ref a2), (.ref b2), (.ref b2)])) (fun t9 k9 => XS.dup X17.here hx rfl (hb hby d9_36) rfl rfl k9) ?_
  obtain ⟨T18, X18, e18, st18⟩ := getF X17 hx hZ hown (host := "") (Or.inl (hw _ (List.mem_of_getElem? (i := 71) rfl))) Via.refl e17 U_made_8 (g := (mkF m 37 #[.val (.ref a1)] [(.ref a1), (.ref a1), (.int cj), (.int tn), (.int rk), (.ref a2), (.ref b2), (.ref b2)])) rfl rfl (hb hby d9_37)
  refine own_st (T' := T18) (g' := (mkF m 40 #[.val (.ref a1)] [(.int md), (.ref a1), (.int cj), (.int tn), (.int rk), (.ref a2), (.ref b2), (.ref b2)])) (fun t9 k9 => st18 t9 k9) ?_
  refine own_st (T' := T18) (g' := (mkF m 41 #[.val (.ref a1)] [(.int md), (.ref a1), (.int md), (.int cj), (.int tn), (.int rk), (.ref a2), (.ref b2), (.ref b2)])) (fun t9 k9 => XS.dupX1 X18.here hx rfl (hb hby d9_40) rfl rfl rfl k9) ?_
  refine own_st (T' := T18) (g' := (mkF m 42 #[.val (.ref a1)] [(.int (1 : Int32)), (.int md), (.ref a1), (.int md), (.int cj), (.int tn), (.int rk), (.ref a2), (.ref b2), (.ref b2)])) (fun t9 k9 => XS.iconst X18.here hx rfl (hb hby d9_41) k9) ?_
  refine own_st (T' := T18) (g' := (mkF m 43 #[.val (.ref a1)] [(.int (md + (1 : Int32))), (.ref a1), (.int md), (.int cj), (.int tn), (.int rk), (.ref a2), (.ref b2), (.ref b2)])) (fun t9 k9 => XS.iadd X18.here hx rfl (hb hby d9_42) rfl k9) ?_
  obtain ⟨T19, h19, X19, e19, W19, st19⟩ := putF X18 hx hZ hown (host := "") (Or.inl (hw _ (List.mem_of_getElem? (i := 71) rfl))) Via.refl e18 U_made_8 E1_3 (Or.inl (hw _ (List.mem_of_getElem? (i := 72) rfl))) (hw _ (List.mem_of_getElem? (i := 41) rfl)) (ty := .int) (by decide) rfl rfl (g := (mkF m 43 #[.val (.ref a1)] [(.int (md + (1 : Int32))), (.ref a1), (.int md), (.int cj), (.int tn), (.int rk), (.ref a2), (.ref b2), (.ref b2)])) rfl rfl (hb hby d9_43)
  have Fw19 := U_made_8.same W19
  have E1_20 := E1_3.wr W19
  have U_at_21 := U_at_4.other W19 (Or.inr (slot_ne (Or.inr (hw _ (List.mem_of_getElem? (i := 51) rfl))) (Or.inl (hw _ (List.mem_of_getElem? (i := 72) rfl))) (by decide) (t := (.object "com/example/weighted_worlds/weightedworlds/Place")) (t' := .int) (by decide) (by decide)))
  have U_rank_22 := U_rank_5.other W19 (Or.inr (slot_ne (Or.inr (hw _ (List.mem_of_getElem? (i := 53) rfl))) (Or.inl (hw _ (List.mem_of_getElem? (i := 72) rfl))) (by decide) (t := .int) (t' := .int) (by decide) (by decide)))
  have U_turn_23 := U_turn_6.other W19 (Or.inr (slot_ne (Or.inr (hw _ (List.mem_of_getElem? (i := 55) rfl))) (Or.inl (hw _ (List.mem_of_getElem? (i := 72) rfl))) (by decide) (t := .int) (t' := .int) (by decide) (by decide)))
  have U_conjunct_24 := U_conjunct_7.other W19 (Or.inr (slot_ne (Or.inr (hw _ (List.mem_of_getElem? (i := 57) rfl))) (Or.inl (hw _ (List.mem_of_getElem? (i := 72) rfl))) (by decide) (t := .int) (t' := .int) (by decide) (by decide)))
  have J1_25 := J1_9.other W19 (Or.inl n2)
  have J2_26 := J2_10.other W19 (Or.inl n2)
  have J3_27 := J3_11.other W19 (Or.inl n3)
  have J4_28 := J4_12.other W19 (Or.inl n3)
  have J5_29 := J5_13.other W19 (Or.inl n4)
  have A2_30 := A2.wr W19
  have F_at_b2_31 := F_at_b2.other W19 (Or.inl (Ne.symm ne_a1_b2))
  have F_depth_b2_32 := F_depth_b2.other W19 (Or.inl (Ne.symm ne_a1_b2))
  have F_jump_b2_33 := F_jump_b2.other W19 (Or.inl (Ne.symm ne_a1_b2))
  have F_rank_b2_34 := F_rank_b2.other W19 (Or.inl (Ne.symm ne_a1_b2))
  have F_turn_b2_35 := F_turn_b2.other W19 (Or.inl (Ne.symm ne_a1_b2))
  have F_conjunct_b2_36 := F_conjunct_b2.other W19 (Or.inl (Ne.symm ne_a1_b2))
  have F_made_b2_37 := F_made_b2.other W19 (Or.inl (Ne.symm ne_a1_b2))
  have F_turns_b2_38 := F_turns_b2.other W19 (Or.inl (Ne.symm ne_a1_b2))
  have K19 := K2.wr W19 (Or.inl (by simp))
  have N19 := Fr.snoc X19 N0 g_a1
  have Z19 : n0 ≤ h19.size := by rw [W19.size]; exact Z2
  refine own_st (T' := T19) (g' := (mkF m 46 #[.val (.ref a1)] [(.int md), (.int cj), (.int tn), (.int rk), (.ref a2), (.ref b2), (.ref b2)])) (fun t9 k9 => st19 t9 k9) ?_
  obtain ⟨_, _, ⟨T39, L39, k39, n39⟩, -, X39, ⟨Lc39, hQ39, l39, y39, z39⟩, st39⟩ := X19.specialBackNest hx (y := (⟨"com/example/weighted_worlds/weightedworlds/Place", "<init>", "(Lcom/example/weighted_worlds/weightedworlds/Place;IIII)V"⟩ : MethodName)) rfl hown (own_mvMN hZ (hw _ (List.mem_of_getElem? (i := 73) rfl))) (mvT hZ (hw _ (List.mem_of_getElem? (i := 7) rfl))) (mvT hZ (hw _ (List.mem_of_getElem? (i := 8) rfl))) (by decide) (own_back (W := 1) (rmPc l Z a0 hw b2 a2 f1 f2 dp df dg rk tn cj md .null (.int 0) .null (.int 0) (.int 0) (.int 0) (.int 0) (.int 0) h19 n0 Z19 A2_30 F_at_b2_31 F_depth_b2_32 F_jump_b2_33 F_rank_b2_34 F_turn_b2_35 F_conjunct_b2_36 F_made_b2_37 F_turns_b2_38 g_b2 J1_25 J2_26 J3_27 J4_28 J5_29 ne_a2_b2 ne_f1_b2 ne_f2_b2) hZ (hw _ (List.mem_of_getElem? (i := 8) rfl)) (hw _ (List.mem_of_getElem? (i := 2) rfl)) (by decide) (by decide)) (g := (mkF m 46 #[.val (.ref a1)] [(.int md), (.int cj), (.int tn), (.int rk), (.ref a2), (.ref b2), (.ref b2)])) rfl (by rw [hml]; rfl) (Steps.refl _) (a := b2) (argsL := [(.ref a2), (.int rk), (.int tn), (.int cj), (.int md)]) (rest := [(.ref b2)]) (lenOf pd_1 rfl) rfl (by show 2 * 0 + _ ≤ _; exact Nat.le_of_eq rfl) (hb hby d9_46) (fun _ _ => ⟨rfl, e19, (Nat.le_of_ble_eq_true rfl), (Nat.le_of_ble_eq_true rfl)⟩)
  dsimp only [Pt.U, Pt.locs, Pt.cells, Pt.slots] at X39 l39 y39 z39 st39 hQ39
  subst l39 y39 z39
  obtain ⟨r39, rfl, Nq39, Kq39, Eq39, Fpat39, Fpdepth39, Fpjump39, Fprank39, Fpturn39, Fpconjunct39, Fpmade39, Fpturns39, hr39⟩ := hQ39
  have N39 := Fr.app N19 Nq39
  obtain ⟨h39, e39⟩ : ∃ z, T39.heap = z := ⟨_, rfl⟩
  rw [e39] at Kq39 Eq39 Fpat39 Fpdepth39 Fpjump39 Fprank39 Fpturn39 Fpconjunct39 Fpmade39 Fpturns39
  have E1_40 := E1_20.keep Kq39
  have U_at_41 := U_at_21.keep Kq39 (ninS ne_a1_b2 nin0)
  have U_rank_42 := U_rank_22.keep Kq39 (ninS ne_a1_b2 nin0)
  have U_turn_43 := U_turn_23.keep Kq39 (ninS ne_a1_b2 nin0)
  have U_conjunct_44 := U_conjunct_24.keep Kq39 (ninS ne_a1_b2 nin0)
  have Fw19_45 := Fw19.keep Kq39 (ninS ne_a1_b2 nin0)
  have J1_46 := J1_25.keep Kq39 (ninS ne_a2_b2 nin0)
  have J2_47 := J2_26.keep Kq39 (ninS ne_a2_b2 nin0)
  have J3_48 := J3_27.keep Kq39 (ninS ne_f1_b2 nin0)
  have J4_49 := J4_28.keep Kq39 (ninS ne_f1_b2 nin0)
  have J5_50 := J5_29.keep Kq39 (ninS ne_f2_b2 nin0)
  have A2_51 := A2_30.keep Kq39
  have K39 := K19.trans Kq39 (allS (Or.inr sz_b2) all0)
  have Z39 : n0 ≤ h39.size := Nat.le_trans Z19 Kq39.1
  refine own_st (T' := T39) (g' := (mkF m 49 #[.val (.ref a1)] [(.ref b2)])) (fun t9 k9 => st39.trans k9) ?_
  refine own_ret (v := some (.ref b2)) hF X39 (own_some hret) hlk (fun fs hr => own_retA X39 hx hret rfl rfl (hb hby d9_49) hr) ?_ (by decide) (by decide)
  try rw [e39]
  exact ⟨b2, r39, rfl, N39, K39, sz_b2, g_b2, Eq39, Fpat39, Fpdepth39, Fpjump39, Fprank39, Fpturn39, Fpconjunct39, Fpmade39, Fpturns39, hr39⟩
theorem d1_0 : decode prog_15_method_3_code 0 = .ok (.new 8, 3) := by decide +kernel
theorem d1_3 : decode prog_15_method_3_code 3 = .ok (.dup, 1) := by decide +kernel
theorem d1_4 : decode prog_15_method_3_code 4 = .ok (.aconst_null, 1) := by decide +kernel
theorem d1_5 : decode prog_15_method_3_code 5 = .ok (.iconst 0, 1) := by decide +kernel
theorem d1_6 : decode prog_15_method_3_code 6 = .ok (.iconst 0, 1) := by decide +kernel
theorem d1_7 : decode prog_15_method_3_code 7 = .ok (.iconst 0, 1) := by decide +kernel
theorem d1_8 : decode prog_15_method_3_code 8 = .ok (.iconst 0, 1) := by decide +kernel
theorem d1_9 : decode prog_15_method_3_code 9 = .ok (.invokespecial 36, 3) := by decide +kernel
theorem d1_12 : decode prog_15_method_3_code 12 = .ok (.areturn, 1) := by decide +kernel
theorem pn_1 : plainFor (⟨"com/example/weighted_worlds/weightedworlds/Place", "start", "()Lcom/example/weighted_worlds/weightedworlds/Place;"⟩ : MethodName) = true := plainFor_of_name (by first | (simp [plainName, overriddenIn]; done) | decide +kernel)
set_option maxRecDepth 65536 in
set_option maxHeartbeats 40000000 in
theorem rm1 (l : Launch) (Z : State) (a0 : Array Value) (hw : ∀ d ∈ tables_1, d.before a0 Z = true)  (h0 : Heap) (n0 : Nat) (Z0 : n0 ≤ h0.size)  :
    own_Met l Z (⟨"com/example/weighted_worlds/weightedworlds/Place", "start", "()Lcom/example/weighted_worlds/weightedworlds/Place;"⟩ : MethodName) prog_15_method_3_code 0 (some (.object "com/example/weighted_worlds/weightedworlds/Place")) ({ frames := 2, cells := 1, slots := 8, locals := 30 } : Room) #[] h0 (fun v h L => ∃ b, v = some (.ref b) ∧ Fr n0 L ∧ Keep h0 h [] ∧ h0.size ≤ b ∧ n0 ≤ b ∧ Exa Z h b "com/example/weighted_worlds/weightedworlds/Place" ∧ Fld Z h b "com/example/weighted_worlds/weightedworlds/Place" "at" "Lcom/example/weighted_worlds/weightedworlds/Place;" .null ∧ Fld Z h b "com/example/weighted_worlds/weightedworlds/Place" "depth" "I" (.int (0 : Int32)) ∧ Fld Z h b "com/example/weighted_worlds/weightedworlds/Place" "jump" "Lcom/example/weighted_worlds/weightedworlds/Place;" (.ref b) ∧ Fld Z h b "com/example/weighted_worlds/weightedworlds/Place" "rank" "I" (.int (0 : Int32)) ∧ Fld Z h b "com/example/weighted_worlds/weightedworlds/Place" "turn" "I" (.int (0 : Int32)) ∧ Fld Z h b "com/example/weighted_worlds/weightedworlds/Place" "conjunct" "I" (.int (0 : Int32)) ∧ Fld Z h b "com/example/weighted_worlds/weightedworlds/Place" "made" "I" (.int (0 : Int32)) ∧ Fld Z h b "com/example/weighted_worlds/weightedworlds/Place" "turns" "I" (.int (0 : Int32))) := by
  refine own_body pn_1 ?_
  intro p e s m below meth c T0 hZ hx hby hml hown hnm hret hlk X0 e0 F hF
  have N0 := Fr.nil n0
  have K0 := Keep.refl h0 []
  refine own_cast (g' := (mkF m 0 #[] [])) (by first | rfl | simp [entryFrame, mkF, argsToLocals, Value.category]) ?_
  obtain ⟨T1, h1, X1, e1, Ex1, A1, D1, -, st1⟩ := newO X0 hx hZ hown (hw _ (List.mem_of_getElem? (i := 4) rfl)) (hw _ (List.mem_of_getElem? (i := 5) rfl)) (hw _ (List.mem_of_getElem? (i := 2) rfl)) e0 (g := (mkF m 0 #[] [])) rfl (hb hby d1_0) (by decide) (by decide)
  obtain ⟨b1, gb1⟩ : ∃ z, z = h0.size := ⟨_, rfl⟩
  have g_b1 : n0 ≤ b1 := gb1 ▸ Z0
  have sz_b1 : h0.size ≤ b1 := gb1 ▸ K0.1
  rw [← gb1] at A1 D1 st1
  have K1 := K0.ext Ex1
  have Z1 : n0 ≤ h1.size := Nat.le_trans Z0 Ex1.1
  have F_at_b1 : Fld Z h1 b1 "com/example/weighted_worlds/weightedworlds/Place" "at" "Lcom/example/weighted_worlds/weightedworlds/Place;" .null := D1 (Or.inr (hw _ (List.mem_of_getElem? (i := 13) rfl))) (ty := (.object "com/example/weighted_worlds/weightedworlds/Place")) (by decide)
  have F_depth_b1 : Fld Z h1 b1 "com/example/weighted_worlds/weightedworlds/Place" "depth" "I" (.int (0 : Int32)) := D1 (Or.inr (hw _ (List.mem_of_getElem? (i := 15) rfl))) (ty := .int) (by decide)
  have F_jump_b1 : Fld Z h1 b1 "com/example/weighted_worlds/weightedworlds/Place" "jump" "Lcom/example/weighted_worlds/weightedworlds/Place;" .null := D1 (Or.inr (hw _ (List.mem_of_getElem? (i := 17) rfl))) (ty := (.object "com/example/weighted_worlds/weightedworlds/Place")) (by decide)
  have F_rank_b1 : Fld Z h1 b1 "com/example/weighted_worlds/weightedworlds/Place" "rank" "I" (.int (0 : Int32)) := D1 (Or.inr (hw _ (List.mem_of_getElem? (i := 19) rfl))) (ty := .int) (by decide)
  have F_turn_b1 : Fld Z h1 b1 "com/example/weighted_worlds/weightedworlds/Place" "turn" "I" (.int (0 : Int32)) := D1 (Or.inr (hw _ (List.mem_of_getElem? (i := 21) rfl))) (ty := .int) (by decide)
  have F_conjunct_b1 : Fld Z h1 b1 "com/example/weighted_worlds/weightedworlds/Place" "conjunct" "I" (.int (0 : Int32)) := D1 (Or.inr (hw _ (List.mem_of_getElem? (i := 23) rfl))) (ty := .int) (by decide)
  have F_made_b1 : Fld Z h1 b1 "com/example/weighted_worlds/weightedworlds/Place" "made" "I" (.int (0 : Int32)) := D1 (Or.inr (hw _ (List.mem_of_getElem? (i := 25) rfl))) (ty := .int) (by decide)
  have F_turns_b1 : Fld Z h1 b1 "com/example/weighted_worlds/weightedworlds/Place" "turns" "I" (.int (0 : Int32)) := D1 (Or.inl (hw _ (List.mem_of_getElem? (i := 69) rfl))) (ty := .int) (by decide)
  refine own_st (T' := T1) (g' := (mkF m 3 #[] [(.ref b1)])) (fun t9 k9 => st1 t9 k9) ?_
  refine own_st (T' := T1) (g' := (mkF m 4 #[] [(.ref b1), (.ref b1)])) (fun t9 k9 => XS.dup X1.here hx rfl (hb hby d1_3) rfl rfl k9) ?_
  refine own_st (T' := T1) (g' := (mkF m 5 #[] [.null, (.ref b1), (.ref b1)])) (fun t9 k9 => XS.aconstNull X1.here hx rfl (hb hby d1_4) k9) ?_
  refine own_st (T' := T1) (g' := (mkF m 6 #[] [(.int (0 : Int32)), .null, (.ref b1), (.ref b1)])) (fun t9 k9 => XS.iconst X1.here hx rfl (hb hby d1_5) k9) ?_
  refine own_st (T' := T1) (g' := (mkF m 7 #[] [(.int (0 : Int32)), (.int (0 : Int32)), .null, (.ref b1), (.ref b1)])) (fun t9 k9 => XS.iconst X1.here hx rfl (hb hby d1_6) k9) ?_
  refine own_st (T' := T1) (g' := (mkF m 8 #[] [(.int (0 : Int32)), (.int (0 : Int32)), (.int (0 : Int32)), .null, (.ref b1), (.ref b1)])) (fun t9 k9 => XS.iconst X1.here hx rfl (hb hby d1_7) k9) ?_
  refine own_st (T' := T1) (g' := (mkF m 9 #[] [(.int (0 : Int32)), (.int (0 : Int32)), (.int (0 : Int32)), (.int (0 : Int32)), .null, (.ref b1), (.ref b1)])) (fun t9 k9 => XS.iconst X1.here hx rfl (hb hby d1_8) k9) ?_
  obtain ⟨_, _, ⟨T2, L2, k2, n2⟩, -, X2, ⟨Lc2, hQ2, l2, y2, z2⟩, st2⟩ := X1.specialBack hx (y := (⟨"com/example/weighted_worlds/weightedworlds/Place", "<init>", "(Lcom/example/weighted_worlds/weightedworlds/Place;IIII)V"⟩ : MethodName)) rfl hown (mvT hZ (hw _ (List.mem_of_getElem? (i := 6) rfl))) (mvT hZ (hw _ (List.mem_of_getElem? (i := 7) rfl))) (mvT hZ (hw _ (List.mem_of_getElem? (i := 8) rfl))) (by decide) (own_back (W := 1) (rmPr l Z a0 hw b1 (0 : Int32) (0 : Int32) (0 : Int32) (0 : Int32) .null (.int 0) .null (.int 0) (.int 0) (.int 0) (.int 0) (.int 0) h1 n0 Z1 A1 F_at_b1 F_depth_b1 F_jump_b1 F_rank_b1 F_turn_b1 F_conjunct_b1 F_made_b1 F_turns_b1 g_b1) hZ (hw _ (List.mem_of_getElem? (i := 8) rfl)) (hw _ (List.mem_of_getElem? (i := 2) rfl)) (by decide) (by decide)) (g := (mkF m 9 #[] [(.int (0 : Int32)), (.int (0 : Int32)), (.int (0 : Int32)), (.int (0 : Int32)), .null, (.ref b1), (.ref b1)])) rfl (by rw [hml]; rfl) (Steps.refl _) (a := b1) (argsL := [.null, (.int (0 : Int32)), (.int (0 : Int32)), (.int (0 : Int32)), (.int (0 : Int32))]) (rest := [(.ref b1)]) (lenOf pd_1 rfl) rfl (by show 2 * 0 + _ ≤ _; exact Nat.le_of_eq rfl) (hb hby d1_9) (fun _ _ => ⟨rfl, e1, (Nat.le_of_ble_eq_true rfl), (Nat.le_of_ble_eq_true rfl)⟩)
  dsimp only [Pt.U, Pt.locs, Pt.cells, Pt.slots] at X2 l2 y2 z2 st2 hQ2
  subst l2 y2 z2
  obtain ⟨rfl, Nq2, Kq2, Eq2, Fpat2, Fpdepth2, Fpjump2, Fprank2, Fpturn2, Fpconjunct2, Fpmade2, Fpturns2⟩ := hQ2
  have N2 := Fr.app N0 Nq2
  obtain ⟨h2, e2⟩ : ∃ z, T2.heap = z := ⟨_, rfl⟩
  rw [e2] at Kq2 Eq2 Fpat2 Fpdepth2 Fpjump2 Fprank2 Fpturn2 Fpconjunct2 Fpmade2 Fpturns2
  have A1_3 := A1.keep Kq2
  have K2 := K1.trans Kq2 (allS (Or.inr sz_b1) all0)
  have Z2 : n0 ≤ h2.size := Nat.le_trans Z1 Kq2.1
  refine own_st (T' := T2) (g' := (mkF m 12 #[] [(.ref b1)])) (fun t9 k9 => st2.trans k9) ?_
  refine own_ret (v := some (.ref b1)) hF X2 (own_some hret) hlk (fun fs hr => own_retA X2 hx hret rfl rfl (hb hby d1_12) hr) ?_ (by decide) (by decide)
  try rw [e2]
  exact ⟨b1, rfl, N2, K2, sz_b1, g_b1, Eq2, Fpat2, Fpdepth2, Fpjump2, Fprank2, Fpturn2, Fpconjunct2, Fpmade2, Fpturns2⟩
theorem d12_0 : decode prog_15_method_6_code 0 = .ok (.aload_n 0, 1) := by decide +kernel
theorem d12_1 : decode prog_15_method_6_code 1 = .ok (.aload_n 1, 1) := by decide +kernel
theorem d12_2 : decode prog_15_method_6_code 2 = .ok (.invokevirtual 47, 3) := by decide +kernel
theorem d12_5 : decode prog_15_method_6_code 5 = .ok (.ifCond .ge 7, 3) := by decide +kernel
theorem d12_8 : decode prog_15_method_6_code 8 = .ok (.aload_n 1, 1) := by decide +kernel
theorem d12_9 : decode prog_15_method_6_code 9 = .ok (.goto 4, 3) := by decide +kernel
theorem d12_12 : decode prog_15_method_6_code 12 = .ok (.aload_n 0, 1) := by decide +kernel
theorem d12_13 : decode prog_15_method_6_code 13 = .ok (.areturn, 1) := by decide +kernel
theorem pn_12 : plainFor (⟨"com/example/weighted_worlds/weightedworlds/Place", "last", "(Lcom/example/weighted_worlds/weightedworlds/Place;Lcom/example/weighted_worlds/weightedworlds/Place;)Lcom/example/weighted_worlds/weightedworlds/Place;"⟩ : MethodName) = true := plainFor_of_name (by first | (simp [plainName, overriddenIn]; done) | decide +kernel)
set_option maxRecDepth 65536 in
set_option maxHeartbeats 40000000 in
theorem rm12 (l : Launch) (Z : State) (a0 : Array Value) (hw : ∀ d ∈ tables_1, d.before a0 Z = true) (a1 a2 : Addr) (d1 d2 : Int32) (h0 : Heap) (n0 : Nat) (Z0 : n0 ≤ h0.size) (E1 : Exa Z h0 a1 "com/example/weighted_worlds/weightedworlds/Place") (F1 : Fld Z h0 a1 "com/example/weighted_worlds/weightedworlds/Place" "depth" "I" (.int d1)) (F2 : Fld Z h0 a2 "com/example/weighted_worlds/weightedworlds/Place" "depth" "I" (.int d2)) (hd : ¬ d1 = d2) (hl : ¬ d1 < d2) :
    own_Met l Z (⟨"com/example/weighted_worlds/weightedworlds/Place", "last", "(Lcom/example/weighted_worlds/weightedworlds/Place;Lcom/example/weighted_worlds/weightedworlds/Place;)Lcom/example/weighted_worlds/weightedworlds/Place;"⟩ : MethodName) prog_15_method_6_code 2 (some (.object "com/example/weighted_worlds/weightedworlds/Place")) ({ frames := 2, cells := 0, slots := 0, locals := 29 } : Room) #[(.ref a1), (.ref a2)] h0 (fun v h L => v = some (.ref a1) ∧ Fr n0 L ∧ h = h0) := by
  refine own_body pn_12 ?_
  intro p e s m below meth c T0 hZ hx hby hml hown hnm hret hlk X0 e0 F hF
  have N0 := Fr.nil n0
  have K0 := Keep.refl h0 []
  refine own_cast (g' := (mkF m 0 #[.val (.ref a1), .val (.ref a2)] [])) (by first | rfl | simp [entryFrame, mkF, argsToLocals, Value.category]) ?_
  refine own_st (T' := T0) (g' := (mkF m 1 #[.val (.ref a1), .val (.ref a2)] [(.ref a1)])) (fun t9 k9 => XS.aloadN X0.here hx rfl (hb hby d12_0) rfl rfl k9) ?_
  refine own_st (T' := T0) (g' := (mkF m 2 #[.val (.ref a1), .val (.ref a2)] [(.ref a2), (.ref a1)])) (fun t9 k9 => XS.aloadN X0.here hx rfl (hb hby d12_1) rfl rfl k9) ?_
  obtain ⟨cq1, kq1, qa1, qb1, qc1⟩ := isOf hZ e0 E1
  obtain ⟨_, _, ⟨T1, L1, k1, n1⟩, -, X1, ⟨Lc1, hQ1, l1, y1, z1⟩, st1⟩ := X0.virtualBack hx (y := (⟨"com/example/weighted_worlds/weightedworlds/Place", "compareTo", "(Lcom/example/weighted_worlds/weightedworlds/Place;)I"⟩ : MethodName)) (z := (⟨"com/example/weighted_worlds/weightedworlds/Place", "compareTo", "(Lcom/example/weighted_worlds/weightedworlds/Place;)I"⟩ : MethodName)) hown (mvT hZ (hw _ (List.mem_of_getElem? (i := 80) rfl))) (mvT hZ (hw _ (List.mem_of_getElem? (i := 27) rfl))) (notFace_of_selects (args := #[]) (mvT hZ (hw _ (List.mem_of_getElem? (i := 29) rfl)))) (mvT hZ (hw _ (List.mem_of_getElem? (i := 29) rfl))) (mvT hZ (hw _ (List.mem_of_getElem? (i := 28) rfl))) (by decide) (own_back (W := 0) (rmCd l Z a0 hw a1 a2 d1 d2 h0 n0 Z0 F1 F2 hd) hZ (hw _ (List.mem_of_getElem? (i := 30) rfl)) (hw _ (List.mem_of_getElem? (i := 2) rfl)) (by decide) (by decide)) qa1 qc1 (g := (mkF m 2 #[.val (.ref a1), .val (.ref a2)] [(.ref a2), (.ref a1)])) rfl (by rw [hml]; rfl) (Steps.refl _) (argsL := [(.ref a2)]) (rest := []) (lenOf pd_3 rfl) rfl (by show 2 * 0 + _ ≤ _; exact Nat.le_of_eq rfl) (hb hby d12_2) (fun _ _ => ⟨rfl, e0, (Nat.le_of_ble_eq_true rfl), (Nat.le_of_ble_eq_true rfl)⟩)
  dsimp only [Pt.U, Pt.locs, Pt.cells, Pt.slots] at X1 l1 y1 z1 st1 hQ1
  subst l1 y1 z1
  obtain ⟨z1, rfl, Nq1, he1, hz1⟩ := hQ1
  have N1 := Fr.app N0 Nq1
  have e1 : T1.heap = h0 := he1
  refine own_st (T' := T1) (g' := (mkF m 5 #[.val (.ref a1), .val (.ref a2)] [(.int z1)])) (fun t9 k9 => st1.trans k9) ?_
  refine own_st (T' := T1) (g' := (mkF m 12 #[.val (.ref a1), .val (.ref a2)] [])) (fun t9 k9 => XS.ifYes X1.here hx rfl (pc0 := 5) (pc' := 12) rfl (hb hby d12_5) rfl ((if0 _ _).trans (flt (hz1.elim (fun q => absurd q.1 hl) (fun q => by rw [q.2]; decide))).2.1) (by decide) (by decide) k9) ?_
  refine own_st (T' := T1) (g' := (mkF m 13 #[.val (.ref a1), .val (.ref a2)] [(.ref a1)])) (fun t9 k9 => XS.aloadN X1.here hx rfl (hb hby d12_12) rfl rfl k9) ?_
  refine own_ret (v := some (.ref a1)) hF X1 (own_some hret) hlk (fun fs hr => own_retA X1 hx hret rfl rfl (hb hby d12_13) hr) ?_ (by decide) (by decide)
  try rw [e1]
  exact ⟨rfl, N1, rfl⟩
theorem pn_0 : plainFor (⟨"com/example/weighted_worlds/weightedworlds/PlaceStartPinLaw", "law", "(II)Z"⟩ : MethodName) = true := plainFor_of_name (by first | (simp [plainName, overriddenIn]; done) | decide +kernel)
set_option maxRecDepth 65536 in
set_option maxHeartbeats 40000000 in
theorem rm0 (l : Launch) (Z : State) (a0 : Array Value) (hw : ∀ d ∈ tables_1, d.before a0 Z = true) (p1 p2 : Int32) (h0 : Heap) (n0 : Nat) (Z0 : n0 ≤ h0.size)  :
    own_Met l Z x code maxLocals ret room_1 #[(.int p1), (.int p2)] h0 (fun v h L => v = some (.int (1 : Int32)) ∧ Fr n0 L) := by
  refine own_body pn_0 ?_
  intro p e s m below meth c T0 hZ hx hby hml hown hnm hret hlk X0 e0 F hF
  have N0 := Fr.nil n0
  have K0 := Keep.refl h0 []
  refine own_cast (g' := (mkF m 0 #[.val (.int p1), .val (.int p2), .unset, .unset, .unset, .unset] [])) (by first | rfl | simp [entryFrame, mkF, argsToLocals, Value.category, maxLocals]) ?_
  obtain ⟨_, _, ⟨T1, L1, k1, n1⟩, -, X1, ⟨Lc1, hQ1, l1, y1, z1⟩, st1⟩ := Jvm.LawKit.callS X0 hx (y := (⟨"com/example/weighted_worlds/weightedworlds/Place", "start", "()Lcom/example/weighted_worlds/weightedworlds/Place;"⟩ : MethodName)) hown (mvT hZ (hw _ (List.mem_of_getElem? (i := 0) rfl))) (mvT hZ (hw _ (List.mem_of_getElem? (i := 1) rfl))) (mvT hZ (hw _ (List.mem_of_getElem? (i := 2) rfl))) (mvT hZ (hw _ (List.mem_of_getElem? (i := 3) rfl))) (by decide) (own_back (W := 0) (rm1 l Z a0 hw h0 n0 Z0) hZ (hw _ (List.mem_of_getElem? (i := 3) rfl)) (hw _ (List.mem_of_getElem? (i := 2) rfl)) (by decide) (by decide)) (g := (mkF m 0 #[.val (.int p1), .val (.int p2), .unset, .unset, .unset, .unset] [])) rfl (by rw [hml]; rfl) (argsL := []) (rest := []) (lenOf pd_0 rfl) rfl (by show 2 * 0 + _ ≤ _; exact Nat.le_of_eq rfl) (hb hby at_0) (fun _ _ => ⟨rfl, e0, (Nat.le_of_ble_eq_true rfl), (Nat.le_of_ble_eq_true rfl)⟩)
  dsimp only [Pt.U, Pt.locs, Pt.cells, Pt.slots] at X1 l1 y1 z1 st1 hQ1
  subst l1 y1 z1
  obtain ⟨b1, rfl, Nq1, Kq1, sz1, g_b1, Eq1, Fpat1, Fpdepth1, Fpjump1, Fprank1, Fpturn1, Fpconjunct1, Fpmade1, Fpturns1⟩ := hQ1
  have N1 := Fr.app N0 Nq1
  obtain ⟨h1, e1⟩ : ∃ z, T1.heap = z := ⟨_, rfl⟩
  rw [e1] at Kq1 Eq1 Fpat1 Fpdepth1 Fpjump1 Fprank1 Fpturn1 Fpconjunct1 Fpmade1 Fpturns1
  have K1 := K0.trans Kq1 all0
  have Z1 : n0 ≤ h1.size := Nat.le_trans Z0 Kq1.1
  refine own_st (T' := T1) (g' := (mkF m 3 #[.val (.int p1), .val (.int p2), .unset, .unset, .unset, .unset] [(.ref b1)])) (fun t9 k9 => st1 t9 k9) ?_
  have K_b1 := K0
  refine own_st (T' := T1) (g' := (mkF m 4 #[.val (.int p1), .val (.int p2), .val (.ref b1), .unset, .unset, .unset] [])) (fun t9 k9 => XS.astoreN X1.here hx rfl (hb hby at_3) rfl rfl (l' := #[.val (.int p1), .val (.int p2), .val (.ref b1), .unset, .unset, .unset]) rfl k9) ?_
  have lt_b1_S1 := Eq1.lt
  obtain ⟨_, _, ⟨T2, L2, k2, n2⟩, -, X2, ⟨Lc2, hQ2, l2, y2, z2⟩, st2⟩ := Jvm.LawKit.callS X1 hx (y := (⟨"com/example/weighted_worlds/weightedworlds/Place", "start", "()Lcom/example/weighted_worlds/weightedworlds/Place;"⟩ : MethodName)) hown (mvT hZ (hw _ (List.mem_of_getElem? (i := 0) rfl))) (mvT hZ (hw _ (List.mem_of_getElem? (i := 1) rfl))) (mvT hZ (hw _ (List.mem_of_getElem? (i := 2) rfl))) (mvT hZ (hw _ (List.mem_of_getElem? (i := 3) rfl))) (by decide) (own_back (W := 0) (rm1 l Z a0 hw h1 n0 Z1) hZ (hw _ (List.mem_of_getElem? (i := 3) rfl)) (hw _ (List.mem_of_getElem? (i := 2) rfl)) (by decide) (by decide)) (g := (mkF m 4 #[.val (.int p1), .val (.int p2), .val (.ref b1), .unset, .unset, .unset] [])) rfl (by rw [hml]; rfl) (argsL := []) (rest := []) (lenOf pd_0 rfl) rfl (by show 2 * 0 + _ ≤ _; exact Nat.le_of_eq rfl) (hb hby at_4) (fun _ _ => ⟨rfl, e1, (Nat.le_of_ble_eq_true rfl), (Nat.le_of_ble_eq_true rfl)⟩)
  dsimp only [Pt.U, Pt.locs, Pt.cells, Pt.slots] at X2 l2 y2 z2 st2 hQ2
  subst l2 y2 z2
  obtain ⟨b2, rfl, Nq2, Kq2, sz2, g_b2, Eq2, Fpat2, Fpdepth2, Fpjump2, Fprank2, Fpturn2, Fpconjunct2, Fpmade2, Fpturns2⟩ := hQ2
  have N2 := Fr.app N1 Nq2
  obtain ⟨h2, e2⟩ : ∃ z, T2.heap = z := ⟨_, rfl⟩
  rw [e2] at Kq2 Eq2 Fpat2 Fpdepth2 Fpjump2 Fprank2 Fpturn2 Fpconjunct2 Fpmade2 Fpturns2
  have Eq1_3 := Eq1.keep Kq2
  have Fpat1_4 := Fpat1.keep Kq2 nin0
  have Fpdepth1_5 := Fpdepth1.keep Kq2 nin0
  have Fpjump1_6 := Fpjump1.keep Kq2 nin0
  have Fprank1_7 := Fprank1.keep Kq2 nin0
  have Fpturn1_8 := Fpturn1.keep Kq2 nin0
  have Fpconjunct1_9 := Fpconjunct1.keep Kq2 nin0
  have Fpmade1_10 := Fpmade1.keep Kq2 nin0
  have Fpturns1_11 := Fpturns1.keep Kq2 nin0
  have K2 := K1.trans Kq2 all0
  have Z2 : n0 ≤ h2.size := Nat.le_trans Z1 Kq2.1
  refine own_st (T' := T2) (g' := (mkF m 7 #[.val (.int p1), .val (.int p2), .val (.ref b1), .unset, .unset, .unset] [(.ref b2)])) (fun t9 k9 => st2 t9 k9) ?_
  have ne_b1_b2 : b1 ≠ b2 := Nat.ne_of_lt (Nat.lt_of_lt_of_le lt_b1_S1 sz2)
  have K_b2 := K1
  refine own_st (T' := T2) (g' := (mkF m 8 #[.val (.int p1), .val (.int p2), .val (.ref b1), .val (.ref b2), .unset, .unset] [])) (fun t9 k9 => XS.astoreN X2.here hx rfl (hb hby at_7) rfl rfl (l' := #[.val (.int p1), .val (.int p2), .val (.ref b1), .val (.ref b2), .unset, .unset]) rfl k9) ?_
  refine own_st (T' := T2) (g' := (mkF m 9 #[.val (.int p1), .val (.int p2), .val (.ref b1), .val (.ref b2), .unset, .unset] [(.ref b1)])) (fun t9 k9 => XS.aloadN X2.here hx rfl (hb hby at_8) rfl rfl k9) ?_
  refine own_st (T' := T2) (g' := (mkF m 10 #[.val (.int p1), .val (.int p2), .val (.ref b1), .val (.ref b2), .unset, .unset] [(.ref b2), (.ref b1)])) (fun t9 k9 => XS.aloadN X2.here hx rfl (hb hby at_9) rfl rfl k9) ?_
  refine own_st (T' := T2) (g' := (mkF m 15 #[.val (.int p1), .val (.int p2), .val (.ref b1), .val (.ref b2), .unset, .unset] [])) (fun t9 k9 => Jvm.RoadKit.acmp (g := (mkF m 10 #[.val (.int p1), .val (.int p2), .val (.ref b1), .val (.ref b2), .unset, .unset] [(.ref b2), (.ref b1)])) X2 hx rfl rfl rfl (pc0 := 10) (pc' := 15) (same := false) rfl (hb hby at_10) rfl (decide_eq_false fun q => ne_b1_b2 (Value.ref.inj q)) (by decide) (by decide) k9) ?_
  refine own_st (T' := T2) (g' := (mkF m 16 #[.val (.int p1), .val (.int p2), .val (.ref b1), .val (.ref b2), .unset, .unset] [(.ref b1)])) (fun t9 k9 => XS.aloadN X2.here hx rfl (hb hby at_15) rfl rfl k9) ?_
  refine own_st (T' := T2) (g' := (mkF m 17 #[.val (.int p1), .val (.int p2), .val (.ref b1), .val (.ref b2), .unset, .unset] [(.ref b1), (.ref b1)])) (fun t9 k9 => XS.aloadN X2.here hx rfl (hb hby at_16) rfl rfl k9) ?_
  obtain ⟨cq12, kq12, qa12, qb12, qc12⟩ := isOf hZ e2 Eq1_3
  obtain ⟨_, _, ⟨T12, L12, k12, n12⟩, -, X12, ⟨Lc12, hQ12, l12, y12, z12⟩, st12⟩ := X2.virtualBack hx (y := (⟨"com/example/weighted_worlds/weightedworlds/Place", "compareTo", "(Lcom/example/weighted_worlds/weightedworlds/Place;)I"⟩ : MethodName)) (z := (⟨"com/example/weighted_worlds/weightedworlds/Place", "compareTo", "(Lcom/example/weighted_worlds/weightedworlds/Place;)I"⟩ : MethodName)) hown (mvT hZ (hw _ (List.mem_of_getElem? (i := 26) rfl))) (mvT hZ (hw _ (List.mem_of_getElem? (i := 27) rfl))) (notFace_of_selects (args := #[]) (mvT hZ (hw _ (List.mem_of_getElem? (i := 29) rfl)))) (mvT hZ (hw _ (List.mem_of_getElem? (i := 29) rfl))) (mvT hZ (hw _ (List.mem_of_getElem? (i := 28) rfl))) (by decide) (own_back (W := 0) (rmCr l Z a0 hw b1 b1 h2 n0 Z2 Fpat1_4 Fpdepth1_5 Fprank1_7 Fpturn1_8 Fpconjunct1_9 Fpmade1_10 Fpat1_4 Fpdepth1_5 Fprank1_7 Fpturn1_8 Fpconjunct1_9 Fpmade1_10) hZ (hw _ (List.mem_of_getElem? (i := 30) rfl)) (hw _ (List.mem_of_getElem? (i := 2) rfl)) (by decide) (by decide)) qa12 qc12 (g := (mkF m 17 #[.val (.int p1), .val (.int p2), .val (.ref b1), .val (.ref b2), .unset, .unset] [(.ref b1), (.ref b1)])) rfl (by rw [hml]; rfl) (Steps.refl _) (argsL := [(.ref b1)]) (rest := []) (lenOf pd_3 rfl) rfl (by show 2 * 0 + _ ≤ _; exact Nat.le_of_eq rfl) (hb hby at_17) (fun _ _ => ⟨rfl, e2, (Nat.le_of_ble_eq_true rfl), (Nat.le_of_ble_eq_true rfl)⟩)
  dsimp only [Pt.U, Pt.locs, Pt.cells, Pt.slots] at X12 l12 y12 z12 st12 hQ12
  subst l12 y12 z12
  obtain ⟨rfl, Nq12, he12⟩ := hQ12
  have N12 := Fr.app N2 Nq12
  have e12 : T12.heap = h2 := he12
  refine own_st (T' := T12) (g' := (mkF m 20 #[.val (.int p1), .val (.int p2), .val (.ref b1), .val (.ref b2), .unset, .unset] [(.int (0 : Int32))])) (fun t9 k9 => st12.trans k9) ?_
  refine own_st (T' := T12) (g' := (mkF m 23 #[.val (.int p1), .val (.int p2), .val (.ref b1), .val (.ref b2), .unset, .unset] [])) (fun t9 k9 => XS.ifNo X12.here hx rfl (hb hby at_20) rfl ((if0 _ _).trans (teq rfl).2) k9) ?_
  refine own_st (T' := T12) (g' := (mkF m 24 #[.val (.int p1), .val (.int p2), .val (.ref b1), .val (.ref b2), .unset, .unset] [(.ref b1)])) (fun t9 k9 => XS.aloadN X12.here hx rfl (hb hby at_23) rfl rfl k9) ?_
  refine own_st (T' := T12) (g' := (mkF m 25 #[.val (.int p1), .val (.int p2), .val (.ref b1), .val (.ref b2), .unset, .unset] [(.ref b2), (.ref b1)])) (fun t9 k9 => XS.aloadN X12.here hx rfl (hb hby at_24) rfl rfl k9) ?_
  obtain ⟨cq13, kq13, qa13, qb13, qc13⟩ := isOf hZ e12 Eq1_3
  obtain ⟨_, _, ⟨T13, L13, k13, n13⟩, -, X13, ⟨Lc13, hQ13, l13, y13, z13⟩, st13⟩ := X12.virtualBack hx (y := (⟨"com/example/weighted_worlds/weightedworlds/Place", "compareTo", "(Lcom/example/weighted_worlds/weightedworlds/Place;)I"⟩ : MethodName)) (z := (⟨"com/example/weighted_worlds/weightedworlds/Place", "compareTo", "(Lcom/example/weighted_worlds/weightedworlds/Place;)I"⟩ : MethodName)) hown (mvT hZ (hw _ (List.mem_of_getElem? (i := 26) rfl))) (mvT hZ (hw _ (List.mem_of_getElem? (i := 27) rfl))) (notFace_of_selects (args := #[]) (mvT hZ (hw _ (List.mem_of_getElem? (i := 29) rfl)))) (mvT hZ (hw _ (List.mem_of_getElem? (i := 29) rfl))) (mvT hZ (hw _ (List.mem_of_getElem? (i := 28) rfl))) (by decide) (own_back (W := 0) (rmCr l Z a0 hw b1 b2 h2 n0 Z2 Fpat1_4 Fpdepth1_5 Fprank1_7 Fpturn1_8 Fpconjunct1_9 Fpmade1_10 Fpat2 Fpdepth2 Fprank2 Fpturn2 Fpconjunct2 Fpmade2) hZ (hw _ (List.mem_of_getElem? (i := 30) rfl)) (hw _ (List.mem_of_getElem? (i := 2) rfl)) (by decide) (by decide)) qa13 qc13 (g := (mkF m 25 #[.val (.int p1), .val (.int p2), .val (.ref b1), .val (.ref b2), .unset, .unset] [(.ref b2), (.ref b1)])) rfl (by rw [hml]; rfl) (Steps.refl _) (argsL := [(.ref b2)]) (rest := []) (lenOf pd_3 rfl) rfl (by show 2 * 0 + _ ≤ _; exact Nat.le_of_eq rfl) (hb hby at_25) (fun _ _ => ⟨rfl, e12, (Nat.le_of_ble_eq_true rfl), (Nat.le_of_ble_eq_true rfl)⟩)
  dsimp only [Pt.U, Pt.locs, Pt.cells, Pt.slots] at X13 l13 y13 z13 st13 hQ13
  subst l13 y13 z13
  obtain ⟨rfl, Nq13, he13⟩ := hQ13
  have N13 := Fr.app N12 Nq13
  have e13 : T13.heap = h2 := he13
  refine own_st (T' := T13) (g' := (mkF m 28 #[.val (.int p1), .val (.int p2), .val (.ref b1), .val (.ref b2), .unset, .unset] [(.int (0 : Int32))])) (fun t9 k9 => st13.trans k9) ?_
  refine own_st (T' := T13) (g' := (mkF m 31 #[.val (.int p1), .val (.int p2), .val (.ref b1), .val (.ref b2), .unset, .unset] [])) (fun t9 k9 => XS.ifNo X13.here hx rfl (hb hby at_28) rfl ((if0 _ _).trans (teq rfl).2) k9) ?_
  refine own_st (T' := T13) (g' := (mkF m 32 #[.val (.int p1), .val (.int p2), .val (.ref b1), .val (.ref b2), .unset, .unset] [(.ref b2)])) (fun t9 k9 => XS.aloadN X13.here hx rfl (hb hby at_31) rfl rfl k9) ?_
  refine own_st (T' := T13) (g' := (mkF m 33 #[.val (.int p1), .val (.int p2), .val (.ref b1), .val (.ref b2), .unset, .unset] [(.ref b1), (.ref b2)])) (fun t9 k9 => XS.aloadN X13.here hx rfl (hb hby at_32) rfl rfl k9) ?_
  obtain ⟨cq14, kq14, qa14, qb14, qc14⟩ := isOf hZ e13 Eq2
  obtain ⟨_, _, ⟨T14, L14, k14, n14⟩, -, X14, ⟨Lc14, hQ14, l14, y14, z14⟩, st14⟩ := X13.virtualBack hx (y := (⟨"com/example/weighted_worlds/weightedworlds/Place", "compareTo", "(Lcom/example/weighted_worlds/weightedworlds/Place;)I"⟩ : MethodName)) (z := (⟨"com/example/weighted_worlds/weightedworlds/Place", "compareTo", "(Lcom/example/weighted_worlds/weightedworlds/Place;)I"⟩ : MethodName)) hown (mvT hZ (hw _ (List.mem_of_getElem? (i := 26) rfl))) (mvT hZ (hw _ (List.mem_of_getElem? (i := 27) rfl))) (notFace_of_selects (args := #[]) (mvT hZ (hw _ (List.mem_of_getElem? (i := 29) rfl)))) (mvT hZ (hw _ (List.mem_of_getElem? (i := 29) rfl))) (mvT hZ (hw _ (List.mem_of_getElem? (i := 28) rfl))) (by decide) (own_back (W := 0) (rmCr l Z a0 hw b2 b1 h2 n0 Z2 Fpat2 Fpdepth2 Fprank2 Fpturn2 Fpconjunct2 Fpmade2 Fpat1_4 Fpdepth1_5 Fprank1_7 Fpturn1_8 Fpconjunct1_9 Fpmade1_10) hZ (hw _ (List.mem_of_getElem? (i := 30) rfl)) (hw _ (List.mem_of_getElem? (i := 2) rfl)) (by decide) (by decide)) qa14 qc14 (g := (mkF m 33 #[.val (.int p1), .val (.int p2), .val (.ref b1), .val (.ref b2), .unset, .unset] [(.ref b1), (.ref b2)])) rfl (by rw [hml]; rfl) (Steps.refl _) (argsL := [(.ref b1)]) (rest := []) (lenOf pd_3 rfl) rfl (by show 2 * 0 + _ ≤ _; exact Nat.le_of_eq rfl) (hb hby at_33) (fun _ _ => ⟨rfl, e13, (Nat.le_of_ble_eq_true rfl), (Nat.le_of_ble_eq_true rfl)⟩)
  dsimp only [Pt.U, Pt.locs, Pt.cells, Pt.slots] at X14 l14 y14 z14 st14 hQ14
  subst l14 y14 z14
  obtain ⟨rfl, Nq14, he14⟩ := hQ14
  have N14 := Fr.app N13 Nq14
  have e14 : T14.heap = h2 := he14
  refine own_st (T' := T14) (g' := (mkF m 36 #[.val (.int p1), .val (.int p2), .val (.ref b1), .val (.ref b2), .unset, .unset] [(.int (0 : Int32))])) (fun t9 k9 => st14.trans k9) ?_
  refine own_st (T' := T14) (g' := (mkF m 41 #[.val (.int p1), .val (.int p2), .val (.ref b1), .val (.ref b2), .unset, .unset] [])) (fun t9 k9 => XS.ifYes X14.here hx rfl (pc0 := 36) (pc' := 41) rfl (hb hby at_36) rfl ((if0 _ _).trans (teq rfl).1) (by decide) (by decide) k9) ?_
  refine own_st (T' := T14) (g' := (mkF m 42 #[.val (.int p1), .val (.int p2), .val (.ref b1), .val (.ref b2), .unset, .unset] [(.ref b1)])) (fun t9 k9 => XS.aloadN X14.here hx rfl (hb hby at_41) rfl rfl k9) ?_
  obtain ⟨cq15, kq15, qa15, qb15, qc15⟩ := isOf hZ e14 Eq1_3
  obtain ⟨_, _, ⟨T15, L15, k15, n15⟩, -, X15, ⟨Lc15, hQ15, l15, y15, z15⟩, st15⟩ := X14.virtualBack hx (y := (⟨"com/example/weighted_worlds/weightedworlds/Place", "restating", "()Lcom/example/weighted_worlds/weightedworlds/Place$Turn;"⟩ : MethodName)) (z := (⟨"com/example/weighted_worlds/weightedworlds/Place", "restating", "()Lcom/example/weighted_worlds/weightedworlds/Place$Turn;"⟩ : MethodName)) hown (mvT hZ (hw _ (List.mem_of_getElem? (i := 35) rfl))) (mvT hZ (hw _ (List.mem_of_getElem? (i := 36) rfl))) (notFace_of_selects (args := #[]) (mvT hZ (hw _ (List.mem_of_getElem? (i := 38) rfl)))) (mvT hZ (hw _ (List.mem_of_getElem? (i := 38) rfl))) (mvT hZ (hw _ (List.mem_of_getElem? (i := 37) rfl))) (by decide) (own_back (W := 0) (rm6 l Z a0 hw b1 h2 n0 Z2) hZ (hw _ (List.mem_of_getElem? (i := 39) rfl)) (hw _ (List.mem_of_getElem? (i := 2) rfl)) (by decide) (by decide)) qa15 qc15 (g := (mkF m 42 #[.val (.int p1), .val (.int p2), .val (.ref b1), .val (.ref b2), .unset, .unset] [(.ref b1)])) rfl (by rw [hml]; rfl) (Steps.refl _) (argsL := []) (rest := []) (lenOf pd_5 rfl) rfl (by show 2 * 0 + _ ≤ _; exact Nat.le_of_eq rfl) (hb hby at_42) (fun _ _ => ⟨rfl, e14, (Nat.le_of_ble_eq_true rfl), (Nat.le_of_ble_eq_true rfl)⟩)
  dsimp only [Pt.U, Pt.locs, Pt.cells, Pt.slots] at X15 l15 y15 z15 st15 hQ15
  subst l15 y15 z15
  obtain ⟨b15, rfl, Nq15, Kq15, Eq15, Fa15, Ft15⟩ := hQ15
  have N15 := Fr.app N14 Nq15
  obtain ⟨h15, e15⟩ : ∃ z, T15.heap = z := ⟨_, rfl⟩
  rw [e15] at Kq15 Eq15 Fa15 Ft15
  have Eq1_16 := Eq1_3.keep Kq15
  have Fpat1_17 := Fpat1_4.keep Kq15 nin0
  have Fpdepth1_18 := Fpdepth1_5.keep Kq15 nin0
  have Fpjump1_19 := Fpjump1_6.keep Kq15 nin0
  have Fprank1_20 := Fprank1_7.keep Kq15 nin0
  have Fpturn1_21 := Fpturn1_8.keep Kq15 nin0
  have Fpconjunct1_22 := Fpconjunct1_9.keep Kq15 nin0
  have Fpmade1_23 := Fpmade1_10.keep Kq15 nin0
  have Fpturns1_24 := Fpturns1_11.keep Kq15 nin0
  have Eq2_25 := Eq2.keep Kq15
  have Fpat2_26 := Fpat2.keep Kq15 nin0
  have Fpdepth2_27 := Fpdepth2.keep Kq15 nin0
  have Fpjump2_28 := Fpjump2.keep Kq15 nin0
  have Fprank2_29 := Fprank2.keep Kq15 nin0
  have Fpturn2_30 := Fpturn2.keep Kq15 nin0
  have Fpconjunct2_31 := Fpconjunct2.keep Kq15 nin0
  have Fpmade2_32 := Fpmade2.keep Kq15 nin0
  have Fpturns2_33 := Fpturns2.keep Kq15 nin0
  have K15 := K2.trans Kq15 all0
  have Z15 : n0 ≤ h15.size := Nat.le_trans Z2 Kq15.1
  refine own_st (T' := T15) (g' := (mkF m 45 #[.val (.int p1), .val (.int p2), .val (.ref b1), .val (.ref b2), .unset, .unset] [(.ref b15)])) (fun t9 k9 => st15.trans k9) ?_
  obtain ⟨cq34, kq34, qa34, qb34, qc34⟩ := isOf hZ e15 Eq15
  obtain ⟨_, _, ⟨T34, L34, k34, n34⟩, -, X34, ⟨Lc34, hQ34, l34, y34, z34⟩, st34⟩ := X15.virtualBack hx (y := (⟨"com/example/weighted_worlds/weightedworlds/Place$Turn", "next", "()Lcom/example/weighted_worlds/weightedworlds/Place;"⟩ : MethodName)) (z := (⟨"com/example/weighted_worlds/weightedworlds/Place$Turn", "next", "()Lcom/example/weighted_worlds/weightedworlds/Place;"⟩ : MethodName)) hown (mvT hZ (hw _ (List.mem_of_getElem? (i := 58) rfl))) (mvT hZ (hw _ (List.mem_of_getElem? (i := 59) rfl))) (notFace_of_selects (args := #[]) (mvT hZ (hw _ (List.mem_of_getElem? (i := 61) rfl)))) (mvT hZ (hw _ (List.mem_of_getElem? (i := 61) rfl))) (mvT hZ (hw _ (List.mem_of_getElem? (i := 60) rfl))) (by decide) (own_back (W := 0) (rmNr l Z a0 hw b15 b1 h15 n0 Z15 Fa15 Ft15) hZ (hw _ (List.mem_of_getElem? (i := 62) rfl)) (hw _ (List.mem_of_getElem? (i := 42) rfl)) (by decide) (by decide)) qa34 qc34 (g := (mkF m 45 #[.val (.int p1), .val (.int p2), .val (.ref b1), .val (.ref b2), .unset, .unset] [(.ref b15)])) rfl (by rw [hml]; rfl) (Steps.refl _) (argsL := []) (rest := []) (lenOf pd_0 rfl) rfl (by show 2 * 0 + _ ≤ _; exact Nat.le_of_eq rfl) (hb hby at_45) (fun _ _ => ⟨rfl, e15, (Nat.le_of_ble_eq_true rfl), (Nat.le_of_ble_eq_true rfl)⟩)
  dsimp only [Pt.U, Pt.locs, Pt.cells, Pt.slots] at X34 l34 y34 z34 st34 hQ34
  subst l34 y34 z34
  obtain ⟨rfl, Nq34, he34⟩ := hQ34
  have N34 := Fr.app N15 Nq34
  have e34 : T34.heap = h15 := he34
  refine own_st (T' := T34) (g' := (mkF m 48 #[.val (.int p1), .val (.int p2), .val (.ref b1), .val (.ref b2), .unset, .unset] [(.ref b1)])) (fun t9 k9 => st34.trans k9) ?_
  refine own_st (T' := T34) (g' := (mkF m 49 #[.val (.int p1), .val (.int p2), .val (.ref b1), .val (.ref b2), .unset, .unset] [(.ref b1), (.ref b1)])) (fun t9 k9 => XS.aloadN X34.here hx rfl (hb hby at_48) rfl rfl k9) ?_
  refine own_st (T' := T34) (g' := (mkF m 54 #[.val (.int p1), .val (.int p2), .val (.ref b1), .val (.ref b2), .unset, .unset] [])) (fun t9 k9 => Jvm.RoadKit.acmp (g := (mkF m 49 #[.val (.int p1), .val (.int p2), .val (.ref b1), .val (.ref b2), .unset, .unset] [(.ref b1), (.ref b1)])) X34 hx rfl rfl rfl (pc0 := 49) (pc' := 54) (same := true) rfl (hb hby at_49) rfl (decide_eq_true rfl) (by decide) (by decide) k9) ?_
  refine own_st (T' := T34) (g' := (mkF m 55 #[.val (.int p1), .val (.int p2), .val (.ref b1), .val (.ref b2), .unset, .unset] [(.ref b1)])) (fun t9 k9 => XS.aloadN X34.here hx rfl (hb hby at_54) rfl rfl k9) ?_
  refine own_st (T' := T34) (g' := (mkF m 56 #[.val (.int p1), .val (.int p2), .val (.ref b1), .val (.ref b2), .unset, .unset] [(.int p1), (.ref b1)])) (fun t9 k9 => XS.iloadN X34.here hx rfl (hb hby at_55) rfl k9) ?_
  have lt_b1_Tb1 := Eq1_16.lt
  have lt_b2_Tb1 := Eq2_25.lt
  have Kp_b1 := K15
  obtain ⟨cq35, kq35, qa35, qb35, qc35⟩ := isOf hZ e34 Eq1_16
  obtain ⟨_, _, ⟨T35, L35, k35, n35⟩, -, X35, ⟨Lc35, hQ35, l35, y35, z35⟩, st35⟩ := X34.virtualBack hx (y := (⟨"com/example/weighted_worlds/weightedworlds/Place", "turn", "(I)Lcom/example/weighted_worlds/weightedworlds/Place$Turn;"⟩ : MethodName)) (z := (⟨"com/example/weighted_worlds/weightedworlds/Place", "turn", "(I)Lcom/example/weighted_worlds/weightedworlds/Place$Turn;"⟩ : MethodName)) hown (mvT hZ (hw _ (List.mem_of_getElem? (i := 63) rfl))) (mvT hZ (hw _ (List.mem_of_getElem? (i := 64) rfl))) (notFace_of_selects (args := #[]) (mvT hZ (hw _ (List.mem_of_getElem? (i := 66) rfl)))) (mvT hZ (hw _ (List.mem_of_getElem? (i := 66) rfl))) (mvT hZ (hw _ (List.mem_of_getElem? (i := 65) rfl))) (by decide) (own_back (W := 0) (rm10 l Z a0 hw b1 p1 (0 : Int32) .null (.int (0 : Int32)) (.ref b1) (.int (0 : Int32)) (.int (0 : Int32)) (.int (0 : Int32)) (.int (0 : Int32)) h15 n0 Z15 Eq1_16 Fpat1_17 Fpdepth1_18 Fpjump1_19 Fprank1_20 Fpturn1_21 Fpconjunct1_22 Fpmade1_23 Fpturns1_24 g_b1) hZ (hw _ (List.mem_of_getElem? (i := 67) rfl)) (hw _ (List.mem_of_getElem? (i := 2) rfl)) (by decide) (by decide)) qa35 qc35 (g := (mkF m 56 #[.val (.int p1), .val (.int p2), .val (.ref b1), .val (.ref b2), .unset, .unset] [(.int p1), (.ref b1)])) rfl (by rw [hml]; rfl) (Steps.refl _) (argsL := [(.int p1)]) (rest := []) (lenOf pd_8 rfl) rfl (by show 2 * 0 + _ ≤ _; exact Nat.le_of_eq rfl) (hb hby at_56) (fun _ _ => ⟨rfl, e34, (Nat.le_of_ble_eq_true rfl), (Nat.le_of_ble_eq_true rfl)⟩)
  dsimp only [Pt.U, Pt.locs, Pt.cells, Pt.slots] at X35 l35 y35 z35 st35 hQ35
  subst l35 y35 z35
  obtain ⟨b35, rfl, Nq35, Kq35, sz35, g_b35, Eq35, Ftat35, Ftrank35, Ftturn35, Ftconjunct35, Ftmade35, Fqat35, Fqdepth35, Fqjump35, Fqrank35, Fqturn35, Fqconjunct35, Fqmade35⟩ := hQ35
  have N35 := Fr.app N34 Nq35
  obtain ⟨h35, e35⟩ : ∃ z, T35.heap = z := ⟨_, rfl⟩
  rw [e35] at Kq35 Eq35 Ftat35 Ftrank35 Ftturn35 Ftconjunct35 Ftmade35 Fqat35 Fqdepth35 Fqjump35 Fqrank35 Fqturn35 Fqconjunct35 Fqmade35
  have Eq1_36 := Eq1_16.keep Kq35
  have Eq2_37 := Eq2_25.keep Kq35
  have Fpat2_38 := Fpat2_26.keep Kq35 (ninS (Ne.symm ne_b1_b2) nin0)
  have Fpdepth2_39 := Fpdepth2_27.keep Kq35 (ninS (Ne.symm ne_b1_b2) nin0)
  have Fpjump2_40 := Fpjump2_28.keep Kq35 (ninS (Ne.symm ne_b1_b2) nin0)
  have Fprank2_41 := Fprank2_29.keep Kq35 (ninS (Ne.symm ne_b1_b2) nin0)
  have Fpturn2_42 := Fpturn2_30.keep Kq35 (ninS (Ne.symm ne_b1_b2) nin0)
  have Fpconjunct2_43 := Fpconjunct2_31.keep Kq35 (ninS (Ne.symm ne_b1_b2) nin0)
  have Fpmade2_44 := Fpmade2_32.keep Kq35 (ninS (Ne.symm ne_b1_b2) nin0)
  have Fpturns2_45 := Fpturns2_33.keep Kq35 (ninS (Ne.symm ne_b1_b2) nin0)
  have K35 := K15.trans Kq35 (allS (Or.inr (Nat.le_trans K_b1.1 sz1)) all0)
  have Z35 : n0 ≤ h35.size := Nat.le_trans Z15 Kq35.1
  refine own_st (T' := T35) (g' := (mkF m 59 #[.val (.int p1), .val (.int p2), .val (.ref b1), .val (.ref b2), .unset, .unset] [(.ref b35)])) (fun t9 k9 => st35.trans k9) ?_
  have ne_b1_b35 : b1 ≠ b35 := Nat.ne_of_lt (Nat.lt_of_lt_of_le lt_b1_Tb1 sz35)
  have ne_b2_b35 : b2 ≠ b35 := Nat.ne_of_lt (Nat.lt_of_lt_of_le lt_b2_Tb1 sz35)
  have lt_b1_Nb1 := Eq1_36.lt
  have lt_b2_Nb1 := Eq2_37.lt
  have Kn_b1 := K35
  obtain ⟨cq46, kq46, qa46, qb46, qc46⟩ := isOf hZ e35 Eq35
  obtain ⟨_, _, ⟨T46, L46, k46, n46⟩, -, X46, ⟨Lc46, hQ46, l46, y46, z46⟩, st46⟩ := X35.virtualBack hx (y := (⟨"com/example/weighted_worlds/weightedworlds/Place$Turn", "next", "()Lcom/example/weighted_worlds/weightedworlds/Place;"⟩ : MethodName)) (z := (⟨"com/example/weighted_worlds/weightedworlds/Place$Turn", "next", "()Lcom/example/weighted_worlds/weightedworlds/Place;"⟩ : MethodName)) hown (mvT hZ (hw _ (List.mem_of_getElem? (i := 58) rfl))) (mvT hZ (hw _ (List.mem_of_getElem? (i := 59) rfl))) (notFace_of_selects (args := #[]) (mvT hZ (hw _ (List.mem_of_getElem? (i := 61) rfl)))) (mvT hZ (hw _ (List.mem_of_getElem? (i := 61) rfl))) (mvT hZ (hw _ (List.mem_of_getElem? (i := 60) rfl))) (by decide) (own_back (W := 0) (rmNc l Z a0 hw b35 b1 b1 b1 (0 : Int32) (0 : Int32) (0 : Int32) p1 (0 : Int32) (0 : Int32) (0 : Int32) h35 n0 Z35 Eq35 Ftat35 Ftrank35 Ftturn35 Ftconjunct35 Ftmade35 (by decide) g_b35 Fqdepth35 Fqjump35 Fqdepth35 Fqjump35 Fqdepth35 ne_b1_b35 ne_b1_b35 ne_b1_b35) hZ (hw _ (List.mem_of_getElem? (i := 62) rfl)) (hw _ (List.mem_of_getElem? (i := 42) rfl)) (by decide) (by decide)) qa46 qc46 (g := (mkF m 59 #[.val (.int p1), .val (.int p2), .val (.ref b1), .val (.ref b2), .unset, .unset] [(.ref b35)])) rfl (by rw [hml]; rfl) (Steps.refl _) (argsL := []) (rest := []) (lenOf pd_0 rfl) rfl (by show 2 * 0 + _ ≤ _; exact Nat.le_of_eq rfl) (hb hby at_59) (fun _ _ => ⟨rfl, e35, (Nat.le_of_ble_eq_true rfl), (Nat.le_of_ble_eq_true rfl)⟩)
  dsimp only [Pt.U, Pt.locs, Pt.cells, Pt.slots] at X46 l46 y46 z46 st46 hQ46
  subst l46 y46 z46
  obtain ⟨b46, r46, rfl, Nq46, Kq46, sz46, g_b46, Eq46, Fpat46, Fpdepth46, Fpjump46, Fprank46, Fpturn46, Fpconjunct46, Fpmade46, Fpturns46, hr46⟩ := hQ46
  have N46 := Fr.app N35 Nq46
  obtain ⟨h46, e46⟩ : ∃ z, T46.heap = z := ⟨_, rfl⟩
  rw [e46] at Kq46 Eq46 Fpat46 Fpdepth46 Fpjump46 Fprank46 Fpturn46 Fpconjunct46 Fpmade46 Fpturns46
  have Eq1_47 := Eq1_36.keep Kq46
  have Eq2_48 := Eq2_37.keep Kq46
  have Fpat2_49 := Fpat2_38.keep Kq46 (ninS ne_b2_b35 nin0)
  have Fpdepth2_50 := Fpdepth2_39.keep Kq46 (ninS ne_b2_b35 nin0)
  have Fpjump2_51 := Fpjump2_40.keep Kq46 (ninS ne_b2_b35 nin0)
  have Fprank2_52 := Fprank2_41.keep Kq46 (ninS ne_b2_b35 nin0)
  have Fpturn2_53 := Fpturn2_42.keep Kq46 (ninS ne_b2_b35 nin0)
  have Fpconjunct2_54 := Fpconjunct2_43.keep Kq46 (ninS ne_b2_b35 nin0)
  have Fpmade2_55 := Fpmade2_44.keep Kq46 (ninS ne_b2_b35 nin0)
  have Fpturns2_56 := Fpturns2_45.keep Kq46 (ninS ne_b2_b35 nin0)
  have Eq35_57 := Eq35.keep Kq46
  have Fqat35_58 := Fqat35.keep Kq46 (ninS ne_b1_b35 nin0)
  have Fqdepth35_59 := Fqdepth35.keep Kq46 (ninS ne_b1_b35 nin0)
  have Fqjump35_60 := Fqjump35.keep Kq46 (ninS ne_b1_b35 nin0)
  have Fqrank35_61 := Fqrank35.keep Kq46 (ninS ne_b1_b35 nin0)
  have Fqturn35_62 := Fqturn35.keep Kq46 (ninS ne_b1_b35 nin0)
  have Fqconjunct35_63 := Fqconjunct35.keep Kq46 (ninS ne_b1_b35 nin0)
  have Fqmade35_64 := Fqmade35.keep Kq46 (ninS ne_b1_b35 nin0)
  have K46 := K35.trans Kq46 (allS (Or.inr (Nat.le_trans Kp_b1.1 sz35)) all0)
  have Z46 : n0 ≤ h46.size := Nat.le_trans Z35 Kq46.1
  refine own_st (T' := T46) (g' := (mkF m 62 #[.val (.int p1), .val (.int p2), .val (.ref b1), .val (.ref b2), .unset, .unset] [(.ref b46)])) (fun t9 k9 => st46.trans k9) ?_
  have hj46 : r46 = b1 := hr46.elim (fun q => q.2) (fun q => absurd (by decide) q.1)
  rw [hj46] at Fpjump46
  have ne_b1_b46 : b1 ≠ b46 := Nat.ne_of_lt (Nat.lt_of_lt_of_le lt_b1_Nb1 sz46)
  have ne_b2_b46 : b2 ≠ b46 := Nat.ne_of_lt (Nat.lt_of_lt_of_le lt_b2_Nb1 sz46)
  refine own_st (T' := T46) (g' := (mkF m 64 #[.val (.int p1), .val (.int p2), .val (.ref b1), .val (.ref b2), .val (.ref b46), .unset] [])) (fun t9 k9 => XS.astore X46.here hx rfl (hb hby at_62) rfl rfl (l' := #[.val (.int p1), .val (.int p2), .val (.ref b1), .val (.ref b2), .val (.ref b46), .unset]) rfl k9) ?_
  refine own_st (T' := T46) (g' := (mkF m 66 #[.val (.int p1), .val (.int p2), .val (.ref b1), .val (.ref b2), .val (.ref b46), .unset] [(.ref b46)])) (fun t9 k9 => XS.aload X46.here hx rfl (hb hby at_64) rfl rfl k9) ?_
  refine own_st (T' := T46) (g' := (mkF m 67 #[.val (.int p1), .val (.int p2), .val (.ref b1), .val (.ref b2), .val (.ref b46), .unset] [(.int p2), (.ref b46)])) (fun t9 k9 => XS.iloadN X46.here hx rfl (hb hby at_66) rfl k9) ?_
  have lt_b1_Tb46 := Eq1_47.lt
  have lt_b46_Tb46 := Eq46.lt
  have Kp_b46 := K46
  obtain ⟨cq65, kq65, qa65, qb65, qc65⟩ := isOf hZ e46 Eq46
  obtain ⟨_, _, ⟨T65, L65, k65, n65⟩, -, X65, ⟨Lc65, hQ65, l65, y65, z65⟩, st65⟩ := X46.virtualBack hx (y := (⟨"com/example/weighted_worlds/weightedworlds/Place", "turn", "(I)Lcom/example/weighted_worlds/weightedworlds/Place$Turn;"⟩ : MethodName)) (z := (⟨"com/example/weighted_worlds/weightedworlds/Place", "turn", "(I)Lcom/example/weighted_worlds/weightedworlds/Place$Turn;"⟩ : MethodName)) hown (mvT hZ (hw _ (List.mem_of_getElem? (i := 63) rfl))) (mvT hZ (hw _ (List.mem_of_getElem? (i := 64) rfl))) (notFace_of_selects (args := #[]) (mvT hZ (hw _ (List.mem_of_getElem? (i := 66) rfl)))) (mvT hZ (hw _ (List.mem_of_getElem? (i := 66) rfl))) (mvT hZ (hw _ (List.mem_of_getElem? (i := 65) rfl))) (by decide) (own_back (W := 0) (rm10 l Z a0 hw b46 p2 (0 : Int32) (.ref b1) (.int ((0 : Int32) + (1 : Int32))) (.ref b1) (.int p1) (.int (0 : Int32)) (.int (0 : Int32)) (.int (0 : Int32)) h46 n0 Z46 Eq46 Fpat46 Fpdepth46 Fpjump46 Fprank46 Fpturn46 Fpconjunct46 Fpmade46 Fpturns46 g_b46) hZ (hw _ (List.mem_of_getElem? (i := 67) rfl)) (hw _ (List.mem_of_getElem? (i := 2) rfl)) (by decide) (by decide)) qa65 qc65 (g := (mkF m 67 #[.val (.int p1), .val (.int p2), .val (.ref b1), .val (.ref b2), .val (.ref b46), .unset] [(.int p2), (.ref b46)])) rfl (by rw [hml]; rfl) (Steps.refl _) (argsL := [(.int p2)]) (rest := []) (lenOf pd_8 rfl) rfl (by show 2 * 0 + _ ≤ _; exact Nat.le_of_eq rfl) (hb hby at_67) (fun _ _ => ⟨rfl, e46, (Nat.le_of_ble_eq_true rfl), (Nat.le_of_ble_eq_true rfl)⟩)
  dsimp only [Pt.U, Pt.locs, Pt.cells, Pt.slots] at X65 l65 y65 z65 st65 hQ65
  subst l65 y65 z65
  obtain ⟨b65, rfl, Nq65, Kq65, sz65, g_b65, Eq65, Ftat65, Ftrank65, Ftturn65, Ftconjunct65, Ftmade65, Fqat65, Fqdepth65, Fqjump65, Fqrank65, Fqturn65, Fqconjunct65, Fqmade65⟩ := hQ65
  have N65 := Fr.app N46 Nq65
  obtain ⟨h65, e65⟩ : ∃ z, T65.heap = z := ⟨_, rfl⟩
  rw [e65] at Kq65 Eq65 Ftat65 Ftrank65 Ftturn65 Ftconjunct65 Ftmade65 Fqat65 Fqdepth65 Fqjump65 Fqrank65 Fqturn65 Fqconjunct65 Fqmade65
  have Eq1_66 := Eq1_47.keep Kq65
  have Fqat35_67 := Fqat35_58.keep Kq65 (ninS ne_b1_b46 nin0)
  have Fqdepth35_68 := Fqdepth35_59.keep Kq65 (ninS ne_b1_b46 nin0)
  have Fqjump35_69 := Fqjump35_60.keep Kq65 (ninS ne_b1_b46 nin0)
  have Fqrank35_70 := Fqrank35_61.keep Kq65 (ninS ne_b1_b46 nin0)
  have Fqturn35_71 := Fqturn35_62.keep Kq65 (ninS ne_b1_b46 nin0)
  have Fqconjunct35_72 := Fqconjunct35_63.keep Kq65 (ninS ne_b1_b46 nin0)
  have Fqmade35_73 := Fqmade35_64.keep Kq65 (ninS ne_b1_b46 nin0)
  have Eq46_74 := Eq46.keep Kq65
  have K65 := K46.trans Kq65 (allS (Or.inr (Nat.le_trans Kn_b1.1 sz46)) all0)
  have Z65 : n0 ≤ h65.size := Nat.le_trans Z46 Kq65.1
  refine own_st (T' := T65) (g' := (mkF m 70 #[.val (.int p1), .val (.int p2), .val (.ref b1), .val (.ref b2), .val (.ref b46), .unset] [(.ref b65)])) (fun t9 k9 => st65.trans k9) ?_
  have ne_b1_b65 : b1 ≠ b65 := Nat.ne_of_lt (Nat.lt_of_lt_of_le lt_b1_Tb46 sz65)
  have ne_b46_b65 : b46 ≠ b65 := Nat.ne_of_lt (Nat.lt_of_lt_of_le lt_b46_Tb46 sz65)
  have lt_b1_Nb46 := Eq1_66.lt
  have lt_b46_Nb46 := Eq46_74.lt
  have Kn_b46 := K65
  obtain ⟨cq75, kq75, qa75, qb75, qc75⟩ := isOf hZ e65 Eq65
  obtain ⟨_, _, ⟨T75, L75, k75, n75⟩, -, X75, ⟨Lc75, hQ75, l75, y75, z75⟩, st75⟩ := X65.virtualBack hx (y := (⟨"com/example/weighted_worlds/weightedworlds/Place$Turn", "next", "()Lcom/example/weighted_worlds/weightedworlds/Place;"⟩ : MethodName)) (z := (⟨"com/example/weighted_worlds/weightedworlds/Place$Turn", "next", "()Lcom/example/weighted_worlds/weightedworlds/Place;"⟩ : MethodName)) hown (mvT hZ (hw _ (List.mem_of_getElem? (i := 58) rfl))) (mvT hZ (hw _ (List.mem_of_getElem? (i := 59) rfl))) (notFace_of_selects (args := #[]) (mvT hZ (hw _ (List.mem_of_getElem? (i := 61) rfl)))) (mvT hZ (hw _ (List.mem_of_getElem? (i := 61) rfl))) (mvT hZ (hw _ (List.mem_of_getElem? (i := 60) rfl))) (by decide) (own_back (W := 0) (rmNc l Z a0 hw b65 b46 b1 b1 ((0 : Int32) + (1 : Int32)) (0 : Int32) (0 : Int32) p2 (0 : Int32) (0 : Int32) (0 : Int32) h65 n0 Z65 Eq65 Ftat65 Ftrank65 Ftturn65 Ftconjunct65 Ftmade65 (by decide) g_b65 Fqdepth65 Fqjump65 Fqdepth35_68 Fqjump35_69 Fqdepth35_68 ne_b46_b65 ne_b1_b65 ne_b1_b65) hZ (hw _ (List.mem_of_getElem? (i := 62) rfl)) (hw _ (List.mem_of_getElem? (i := 42) rfl)) (by decide) (by decide)) qa75 qc75 (g := (mkF m 70 #[.val (.int p1), .val (.int p2), .val (.ref b1), .val (.ref b2), .val (.ref b46), .unset] [(.ref b65)])) rfl (by rw [hml]; rfl) (Steps.refl _) (argsL := []) (rest := []) (lenOf pd_0 rfl) rfl (by show 2 * 0 + _ ≤ _; exact Nat.le_of_eq rfl) (hb hby at_70) (fun _ _ => ⟨rfl, e65, (Nat.le_of_ble_eq_true rfl), (Nat.le_of_ble_eq_true rfl)⟩)
  dsimp only [Pt.U, Pt.locs, Pt.cells, Pt.slots] at X75 l75 y75 z75 st75 hQ75
  subst l75 y75 z75
  obtain ⟨b75, r75, rfl, Nq75, Kq75, sz75, g_b75, Eq75, Fpat75, Fpdepth75, Fpjump75, Fprank75, Fpturn75, Fpconjunct75, Fpmade75, Fpturns75, hr75⟩ := hQ75
  have N75 := Fr.app N65 Nq75
  obtain ⟨h75, e75⟩ : ∃ z, T75.heap = z := ⟨_, rfl⟩
  rw [e75] at Kq75 Eq75 Fpat75 Fpdepth75 Fpjump75 Fprank75 Fpturn75 Fpconjunct75 Fpmade75 Fpturns75
  have Eq1_76 := Eq1_66.keep Kq75
  have Fqat35_77 := Fqat35_67.keep Kq75 (ninS ne_b1_b65 nin0)
  have Fqdepth35_78 := Fqdepth35_68.keep Kq75 (ninS ne_b1_b65 nin0)
  have Fqjump35_79 := Fqjump35_69.keep Kq75 (ninS ne_b1_b65 nin0)
  have Fqrank35_80 := Fqrank35_70.keep Kq75 (ninS ne_b1_b65 nin0)
  have Fqturn35_81 := Fqturn35_71.keep Kq75 (ninS ne_b1_b65 nin0)
  have Fqconjunct35_82 := Fqconjunct35_72.keep Kq75 (ninS ne_b1_b65 nin0)
  have Fqmade35_83 := Fqmade35_73.keep Kq75 (ninS ne_b1_b65 nin0)
  have Eq46_84 := Eq46_74.keep Kq75
  have Eq65_85 := Eq65.keep Kq75
  have Fqat65_86 := Fqat65.keep Kq75 (ninS ne_b46_b65 nin0)
  have Fqdepth65_87 := Fqdepth65.keep Kq75 (ninS ne_b46_b65 nin0)
  have Fqjump65_88 := Fqjump65.keep Kq75 (ninS ne_b46_b65 nin0)
  have Fqrank65_89 := Fqrank65.keep Kq75 (ninS ne_b46_b65 nin0)
  have Fqturn65_90 := Fqturn65.keep Kq75 (ninS ne_b46_b65 nin0)
  have Fqconjunct65_91 := Fqconjunct65.keep Kq75 (ninS ne_b46_b65 nin0)
  have Fqmade65_92 := Fqmade65.keep Kq75 (ninS ne_b46_b65 nin0)
  have K75 := K65.trans Kq75 (allS (Or.inr (Nat.le_trans Kp_b46.1 sz65)) all0)
  have Z75 : n0 ≤ h75.size := Nat.le_trans Z65 Kq75.1
  refine own_st (T' := T75) (g' := (mkF m 73 #[.val (.int p1), .val (.int p2), .val (.ref b1), .val (.ref b2), .val (.ref b46), .unset] [(.ref b75)])) (fun t9 k9 => st75.trans k9) ?_
  have hj75 : r75 = b46 := hr75.elim (fun q => absurd q.1 (by decide)) (fun q => q.2)
  rw [hj75] at Fpjump75
  have ne_b1_b75 : b1 ≠ b75 := Nat.ne_of_lt (Nat.lt_of_lt_of_le lt_b1_Nb46 sz75)
  have ne_b46_b75 : b46 ≠ b75 := Nat.ne_of_lt (Nat.lt_of_lt_of_le lt_b46_Nb46 sz75)
  refine own_st (T' := T75) (g' := (mkF m 75 #[.val (.int p1), .val (.int p2), .val (.ref b1), .val (.ref b2), .val (.ref b46), .val (.ref b75)] [])) (fun t9 k9 => XS.astore X75.here hx rfl (hb hby at_73) rfl rfl (l' := #[.val (.int p1), .val (.int p2), .val (.ref b1), .val (.ref b2), .val (.ref b46), .val (.ref b75)]) rfl k9) ?_
  refine own_st (T' := T75) (g' := (mkF m 76 #[.val (.int p1), .val (.int p2), .val (.ref b1), .val (.ref b2), .val (.ref b46), .val (.ref b75)] [(.ref b1)])) (fun t9 k9 => XS.aloadN X75.here hx rfl (hb hby at_75) rfl rfl k9) ?_
  refine own_st (T' := T75) (g' := (mkF m 78 #[.val (.int p1), .val (.int p2), .val (.ref b1), .val (.ref b2), .val (.ref b46), .val (.ref b75)] [(.ref b46), (.ref b1)])) (fun t9 k9 => XS.aload X75.here hx rfl (hb hby at_76) rfl rfl k9) ?_
  obtain ⟨cq93, kq93, qa93, qb93, qc93⟩ := isOf hZ e75 Eq1_76
  obtain ⟨_, _, ⟨T93, L93, k93, n93⟩, -, X93, ⟨Lc93, hQ93, l93, y93, z93⟩, st93⟩ := X75.virtualBack hx (y := (⟨"com/example/weighted_worlds/weightedworlds/Place", "compareTo", "(Lcom/example/weighted_worlds/weightedworlds/Place;)I"⟩ : MethodName)) (z := (⟨"com/example/weighted_worlds/weightedworlds/Place", "compareTo", "(Lcom/example/weighted_worlds/weightedworlds/Place;)I"⟩ : MethodName)) hown (mvT hZ (hw _ (List.mem_of_getElem? (i := 26) rfl))) (mvT hZ (hw _ (List.mem_of_getElem? (i := 27) rfl))) (notFace_of_selects (args := #[]) (mvT hZ (hw _ (List.mem_of_getElem? (i := 29) rfl)))) (mvT hZ (hw _ (List.mem_of_getElem? (i := 29) rfl))) (mvT hZ (hw _ (List.mem_of_getElem? (i := 28) rfl))) (by decide) (own_back (W := 0) (rmCd l Z a0 hw b1 b46 (0 : Int32) ((0 : Int32) + (1 : Int32)) h75 n0 Z75 Fqdepth35_78 Fqdepth65_87 (by decide)) hZ (hw _ (List.mem_of_getElem? (i := 30) rfl)) (hw _ (List.mem_of_getElem? (i := 2) rfl)) (by decide) (by decide)) qa93 qc93 (g := (mkF m 78 #[.val (.int p1), .val (.int p2), .val (.ref b1), .val (.ref b2), .val (.ref b46), .val (.ref b75)] [(.ref b46), (.ref b1)])) rfl (by rw [hml]; rfl) (Steps.refl _) (argsL := [(.ref b46)]) (rest := []) (lenOf pd_3 rfl) rfl (by show 2 * 0 + _ ≤ _; exact Nat.le_of_eq rfl) (hb hby at_78) (fun _ _ => ⟨rfl, e75, (Nat.le_of_ble_eq_true rfl), (Nat.le_of_ble_eq_true rfl)⟩)
  dsimp only [Pt.U, Pt.locs, Pt.cells, Pt.slots] at X93 l93 y93 z93 st93 hQ93
  subst l93 y93 z93
  obtain ⟨z93, rfl, Nq93, he93, hz93⟩ := hQ93
  have N93 := Fr.app N75 Nq93
  have e93 : T93.heap = h75 := he93
  refine own_st (T' := T93) (g' := (mkF m 81 #[.val (.int p1), .val (.int p2), .val (.ref b1), .val (.ref b2), .val (.ref b46), .val (.ref b75)] [(.int z93)])) (fun t9 k9 => st93.trans k9) ?_
  refine own_st (T' := T93) (g' := (mkF m 84 #[.val (.int p1), .val (.int p2), .val (.ref b1), .val (.ref b2), .val (.ref b46), .val (.ref b75)] [])) (fun t9 k9 => XS.ifNo X93.here hx rfl (hb hby at_81) rfl ((if0 _ _).trans (tlt (hz93.elim (fun q => by rw [q.2]; decide) (fun q => absurd (by decide) q.1))).2.1) k9) ?_
  refine own_st (T' := T93) (g' := (mkF m 86 #[.val (.int p1), .val (.int p2), .val (.ref b1), .val (.ref b2), .val (.ref b46), .val (.ref b75)] [(.ref b46)])) (fun t9 k9 => XS.aload X93.here hx rfl (hb hby at_84) rfl rfl k9) ?_
  refine own_st (T' := T93) (g' := (mkF m 87 #[.val (.int p1), .val (.int p2), .val (.ref b1), .val (.ref b2), .val (.ref b46), .val (.ref b75)] [(.ref b1), (.ref b46)])) (fun t9 k9 => XS.aloadN X93.here hx rfl (hb hby at_86) rfl rfl k9) ?_
  obtain ⟨cq94, kq94, qa94, qb94, qc94⟩ := isOf hZ e93 Eq46_84
  obtain ⟨_, _, ⟨T94, L94, k94, n94⟩, -, X94, ⟨Lc94, hQ94, l94, y94, z94⟩, st94⟩ := X93.virtualBack hx (y := (⟨"com/example/weighted_worlds/weightedworlds/Place", "compareTo", "(Lcom/example/weighted_worlds/weightedworlds/Place;)I"⟩ : MethodName)) (z := (⟨"com/example/weighted_worlds/weightedworlds/Place", "compareTo", "(Lcom/example/weighted_worlds/weightedworlds/Place;)I"⟩ : MethodName)) hown (mvT hZ (hw _ (List.mem_of_getElem? (i := 26) rfl))) (mvT hZ (hw _ (List.mem_of_getElem? (i := 27) rfl))) (notFace_of_selects (args := #[]) (mvT hZ (hw _ (List.mem_of_getElem? (i := 29) rfl)))) (mvT hZ (hw _ (List.mem_of_getElem? (i := 29) rfl))) (mvT hZ (hw _ (List.mem_of_getElem? (i := 28) rfl))) (by decide) (own_back (W := 0) (rmCd l Z a0 hw b46 b1 ((0 : Int32) + (1 : Int32)) (0 : Int32) h75 n0 Z75 Fqdepth65_87 Fqdepth35_78 (by decide)) hZ (hw _ (List.mem_of_getElem? (i := 30) rfl)) (hw _ (List.mem_of_getElem? (i := 2) rfl)) (by decide) (by decide)) qa94 qc94 (g := (mkF m 87 #[.val (.int p1), .val (.int p2), .val (.ref b1), .val (.ref b2), .val (.ref b46), .val (.ref b75)] [(.ref b1), (.ref b46)])) rfl (by rw [hml]; rfl) (Steps.refl _) (argsL := [(.ref b1)]) (rest := []) (lenOf pd_3 rfl) rfl (by show 2 * 0 + _ ≤ _; exact Nat.le_of_eq rfl) (hb hby at_87) (fun _ _ => ⟨rfl, e93, (Nat.le_of_ble_eq_true rfl), (Nat.le_of_ble_eq_true rfl)⟩)
  dsimp only [Pt.U, Pt.locs, Pt.cells, Pt.slots] at X94 l94 y94 z94 st94 hQ94
  subst l94 y94 z94
  obtain ⟨z94, rfl, Nq94, he94, hz94⟩ := hQ94
  have N94 := Fr.app N93 Nq94
  have e94 : T94.heap = h75 := he94
  refine own_st (T' := T94) (g' := (mkF m 90 #[.val (.int p1), .val (.int p2), .val (.ref b1), .val (.ref b2), .val (.ref b46), .val (.ref b75)] [(.int z94)])) (fun t9 k9 => st94.trans k9) ?_
  refine own_st (T' := T94) (g' := (mkF m 93 #[.val (.int p1), .val (.int p2), .val (.ref b1), .val (.ref b2), .val (.ref b46), .val (.ref b75)] [])) (fun t9 k9 => XS.ifNo X94.here hx rfl (hb hby at_90) rfl ((if0 _ _).trans (tlt (hz94.elim (fun q => absurd q.1 (by decide)) (fun q => by rw [q.2]; decide))).2.2.2) k9) ?_
  refine own_st (T' := T94) (g' := (mkF m 94 #[.val (.int p1), .val (.int p2), .val (.ref b1), .val (.ref b2), .val (.ref b46), .val (.ref b75)] [(.ref b1)])) (fun t9 k9 => XS.aloadN X94.here hx rfl (hb hby at_93) rfl rfl k9) ?_
  refine own_st (T' := T94) (g' := (mkF m 96 #[.val (.int p1), .val (.int p2), .val (.ref b1), .val (.ref b2), .val (.ref b46), .val (.ref b75)] [(.ref b75), (.ref b1)])) (fun t9 k9 => XS.aload X94.here hx rfl (hb hby at_94) rfl rfl k9) ?_
  obtain ⟨cq95, kq95, qa95, qb95, qc95⟩ := isOf hZ e94 Eq1_76
  obtain ⟨_, _, ⟨T95, L95, k95, n95⟩, -, X95, ⟨Lc95, hQ95, l95, y95, z95⟩, st95⟩ := X94.virtualBack hx (y := (⟨"com/example/weighted_worlds/weightedworlds/Place", "compareTo", "(Lcom/example/weighted_worlds/weightedworlds/Place;)I"⟩ : MethodName)) (z := (⟨"com/example/weighted_worlds/weightedworlds/Place", "compareTo", "(Lcom/example/weighted_worlds/weightedworlds/Place;)I"⟩ : MethodName)) hown (mvT hZ (hw _ (List.mem_of_getElem? (i := 26) rfl))) (mvT hZ (hw _ (List.mem_of_getElem? (i := 27) rfl))) (notFace_of_selects (args := #[]) (mvT hZ (hw _ (List.mem_of_getElem? (i := 29) rfl)))) (mvT hZ (hw _ (List.mem_of_getElem? (i := 29) rfl))) (mvT hZ (hw _ (List.mem_of_getElem? (i := 28) rfl))) (by decide) (own_back (W := 0) (rmCd l Z a0 hw b1 b75 (0 : Int32) (((0 : Int32) + (1 : Int32)) + (1 : Int32)) h75 n0 Z75 Fqdepth35_78 Fpdepth75 (by decide)) hZ (hw _ (List.mem_of_getElem? (i := 30) rfl)) (hw _ (List.mem_of_getElem? (i := 2) rfl)) (by decide) (by decide)) qa95 qc95 (g := (mkF m 96 #[.val (.int p1), .val (.int p2), .val (.ref b1), .val (.ref b2), .val (.ref b46), .val (.ref b75)] [(.ref b75), (.ref b1)])) rfl (by rw [hml]; rfl) (Steps.refl _) (argsL := [(.ref b75)]) (rest := []) (lenOf pd_3 rfl) rfl (by show 2 * 0 + _ ≤ _; exact Nat.le_of_eq rfl) (hb hby at_96) (fun _ _ => ⟨rfl, e94, (Nat.le_of_ble_eq_true rfl), (Nat.le_of_ble_eq_true rfl)⟩)
  dsimp only [Pt.U, Pt.locs, Pt.cells, Pt.slots] at X95 l95 y95 z95 st95 hQ95
  subst l95 y95 z95
  obtain ⟨z95, rfl, Nq95, he95, hz95⟩ := hQ95
  have N95 := Fr.app N94 Nq95
  have e95 : T95.heap = h75 := he95
  refine own_st (T' := T95) (g' := (mkF m 99 #[.val (.int p1), .val (.int p2), .val (.ref b1), .val (.ref b2), .val (.ref b46), .val (.ref b75)] [(.int z95)])) (fun t9 k9 => st95.trans k9) ?_
  refine own_st (T' := T95) (g' := (mkF m 104 #[.val (.int p1), .val (.int p2), .val (.ref b1), .val (.ref b2), .val (.ref b46), .val (.ref b75)] [])) (fun t9 k9 => XS.ifYes X95.here hx rfl (pc0 := 99) (pc' := 104) rfl (hb hby at_99) rfl ((if0 _ _).trans (tlt (hz95.elim (fun q => by rw [q.2]; decide) (fun q => absurd (by decide) q.1))).1) (by decide) (by decide) k9) ?_
  refine own_st (T' := T95) (g' := (mkF m 106 #[.val (.int p1), .val (.int p2), .val (.ref b1), .val (.ref b2), .val (.ref b46), .val (.ref b75)] [(.ref b46)])) (fun t9 k9 => XS.aload X95.here hx rfl (hb hby at_104) rfl rfl k9) ?_
  refine own_st (T' := T95) (g' := (mkF m 107 #[.val (.int p1), .val (.int p2), .val (.ref b1), .val (.ref b2), .val (.ref b46), .val (.ref b75)] [(.ref b1), (.ref b46)])) (fun t9 k9 => XS.aloadN X95.here hx rfl (hb hby at_106) rfl rfl k9) ?_
  obtain ⟨_, _, ⟨T96, L96, k96, n96⟩, -, X96, ⟨Lc96, hQ96, l96, y96, z96⟩, st96⟩ := Jvm.LawKit.callS X95 hx (y := (⟨"com/example/weighted_worlds/weightedworlds/Place", "last", "(Lcom/example/weighted_worlds/weightedworlds/Place;Lcom/example/weighted_worlds/weightedworlds/Place;)Lcom/example/weighted_worlds/weightedworlds/Place;"⟩ : MethodName)) hown (mvT hZ (hw _ (List.mem_of_getElem? (i := 77) rfl))) (mvT hZ (hw _ (List.mem_of_getElem? (i := 78) rfl))) (mvT hZ (hw _ (List.mem_of_getElem? (i := 2) rfl))) (mvT hZ (hw _ (List.mem_of_getElem? (i := 79) rfl))) (by decide) (own_back (W := 0) (rm12 l Z a0 hw b46 b1 ((0 : Int32) + (1 : Int32)) (0 : Int32) h75 n0 Z75 Eq46_84 Fqdepth65_87 Fqdepth35_78 (by decide) (by decide)) hZ (hw _ (List.mem_of_getElem? (i := 79) rfl)) (hw _ (List.mem_of_getElem? (i := 2) rfl)) (by decide) (by decide)) (g := (mkF m 107 #[.val (.int p1), .val (.int p2), .val (.ref b1), .val (.ref b2), .val (.ref b46), .val (.ref b75)] [(.ref b1), (.ref b46)])) rfl (by rw [hml]; rfl) (argsL := [(.ref b46), (.ref b1)]) (rest := []) (lenOf pd_10 rfl) rfl (by show 2 * 0 + _ ≤ _; exact Nat.le_of_eq rfl) (hb hby at_107) (fun _ _ => ⟨rfl, e95, (Nat.le_of_ble_eq_true rfl), (Nat.le_of_ble_eq_true rfl)⟩)
  dsimp only [Pt.U, Pt.locs, Pt.cells, Pt.slots] at X96 l96 y96 z96 st96 hQ96
  subst l96 y96 z96
  obtain ⟨rfl, Nq96, he96⟩ := hQ96
  have N96 := Fr.app N95 Nq96
  have e96 : T96.heap = h75 := he96
  refine own_st (T' := T96) (g' := (mkF m 110 #[.val (.int p1), .val (.int p2), .val (.ref b1), .val (.ref b2), .val (.ref b46), .val (.ref b75)] [(.ref b46)])) (fun t9 k9 => st96 t9 k9) ?_
  refine own_st (T' := T96) (g' := (mkF m 112 #[.val (.int p1), .val (.int p2), .val (.ref b1), .val (.ref b2), .val (.ref b46), .val (.ref b75)] [(.ref b46), (.ref b46)])) (fun t9 k9 => XS.aload X96.here hx rfl (hb hby at_110) rfl rfl k9) ?_
  refine own_st (T' := T96) (g' := (mkF m 115 #[.val (.int p1), .val (.int p2), .val (.ref b1), .val (.ref b2), .val (.ref b46), .val (.ref b75)] [])) (fun t9 k9 => Jvm.RoadKit.acmp (g := (mkF m 112 #[.val (.int p1), .val (.int p2), .val (.ref b1), .val (.ref b2), .val (.ref b46), .val (.ref b75)] [(.ref b46), (.ref b46)])) X96 hx rfl rfl rfl (pc0 := 112) (pc' := 115) (same := true) rfl (hb hby at_112) rfl (decide_eq_true rfl) (by decide) (by decide) k9) ?_
  refine own_st (T' := T96) (g' := (mkF m 116 #[.val (.int p1), .val (.int p2), .val (.ref b1), .val (.ref b2), .val (.ref b46), .val (.ref b75)] [(.int (1 : Int32))])) (fun t9 k9 => XS.iconst X96.here hx rfl (hb hby at_115) k9) ?_
  refine own_st (T' := T96) (g' := (mkF m 120 #[.val (.int p1), .val (.int p2), .val (.ref b1), .val (.ref b2), .val (.ref b46), .val (.ref b75)] [(.int (1 : Int32))])) (fun t9 k9 => XS.goto X96.here hx rfl (pc0 := 116) (pc' := 120) rfl (hb hby at_116) (by decide) (by decide) k9) ?_
  refine own_ret (v := some (.int (1 : Int32))) hF X96 (own_some hret) hlk (fun fs hr => retN X96 hx (t := .boolean) hret (by simp) (hb hby at_120) hr) ?_ (by decide) (by decide)
  try rw [e96]
  exact ⟨rfl, N96⟩
set_option maxRecDepth 65536 in
set_option maxHeartbeats 40000000 in
theorem comes_1 {Post : Tables → Env → Array Value → State → Outcome → State → Prop} (hpost : ∀ tb e args s v u, (limb_1_1.after args s (.returned v) u = true ∧ limb_1_2.after args s (.returned v) u = true ∧ True) → FrameEnd s (.returned v) u (Jvm.fieldLocs frame_1_writes args s ++ Jvm.arrayLocs frame_1_arrays args s ++ Jvm.staticLocs frame_1_statics s) 24 192 → Post tb e args s (.returned v) u) :
    ArmFor flags0 classFile x code maxLocals ret World_1 tables_1 room_1 Calls_1 rest_1 Pre_1 Post := by
  intro l hfl _ _ p e ha hc hk s m args below hf hA hF happ hP
  obtain ⟨hcalls, hrest, hpre⟩ := hP
  obtain ⟨-, -, -, hnamed, -, -, -, hat⟩ := (Spec.applies_iff hf).mp happ
  obtain ⟨hg, hn⟩ := and_e (Cond.before_iff.mp (show (Jvm.Cond.and given_1 narrow_1).before args s = true from hpre))
  obtain ⟨ga0, gb0⟩ := and_e hg
  obtain ⟨ga1, gb1⟩ := and_e gb0
  obtain ⟨w0, w1, rfl⟩ : ∃ w0 w1 : Value, args = #[w0, w1] := by
    have hs : args.size = 2 := by simpa [Cond.value, given_1] using ga0
    obtain ⟨L⟩ := args
    match L, hs with
    | [w0, w1], _ => exact ⟨w0, w1, rfl⟩
  have hw := fun d (hd : d ∈ tables_1) => atoms_spec (ws := Jvm.Cond.code x code maxLocals ret :: tables_1) hat d (List.mem_cons_of_mem _ hd)
  have hfit : Fit s := fun {y c} hc i hi => by
    obtain ⟨ha, rfl⟩ := Array.getElem?_eq_some_iff.mp hc
    have q := List.all_eq_true.mp ((Array.all_eq_true_iff_forall_mem.mp hF) _ (Array.getElem_mem ha)) i (List.mem_range.mpr hi)
    simpa [Array.getElem?_eq_getElem hi] using q
  obtain ⟨i0, ei0⟩ := is_v ga1
  obtain rfl : w0 = (.int i0) := Option.some.inj ei0
  obtain ⟨i1, ei1⟩ := is_v gb1
  obtain rfl : w1 = (.int i1) := Option.some.inj ei1
  obtain ⟨n, o, h1, h2, h3, _, L, rfl, ⟨rfl, N⟩, hq⟩ := rm0 l s _ hw i0 i1 s.heap s.heap.size (Nat.le_refl _)  tables_1 p e ha hc hk s m _ below hf ((Spec.applies_iff_loose hf).mp happ).1 ⟨rfl, State.Warmed39.refl s, rfl⟩ trivial
  refine ⟨n, _, h1, h2, h3, hpost _ _ _ _ _ _ ⟨Cond.after_iff.mpr rfl, Cond.after_iff.mpr (eq_i res_at (Term.int_eval (1)) rfl), trivial⟩ ⟨hq.1, hq.2.1, (hq.2.2.sift fun y hy => Or.inr (N y hy)).mono (by decide) (by decide)⟩⟩
theorem main_1_1 : Claimed_1_1 := comes_1 fun _ _ _ _ _ _ h hF => ⟨h.1, hF⟩
theorem main_1_2 : Claimed_1_2 := comes_1 fun _ _ _ _ _ _ h hF => ⟨h.2.1, hF⟩
end Jvm.Pilot.@@N@@
namespace Jvm.Pilot.@@N@@
open Jvm Jvm.ClassFile Sem Op Lib Jvm.Free Jvm.Stand Jvm.Pilot.@@N@@.Jvm.D
/-! MADE BY PROGRAM (witnessworld.py) out of the Statement's table words and the real class files: 15 classes; the members and pool entries that the words name. The judged class is class 1, her method 1. -/
namespace start1
open Jvm.ClassFile
def u (s : String) : CpInfo := .utf8 (stringToUtf16 s)
/-- a pool by its gaps: so many unusable entries, then the entry; so many at the end -/
def gap : Nat → List CpInfo → List CpInfo
  | 0, r => r
  | n + 1, r => .unusable :: gap n r
def poolList (es : List (Nat × CpInfo)) (last : Nat) : List CpInfo := es.foldr (fun e r => gap e.1 (e.2 :: r)) (gap last [])
def pool (es : List (Nat × CpInfo)) (last : Nat) : Array CpInfo := ⟨poolList es last⟩
def fileOf (pool : Array CpInfo) (this : Nat) (attrs : Array Attribute := #[]) (ms : Array MethodInfo := #[]) (fl : Nat := 33) (sup : Nat := 0) (ifs : Array Nat := #[]) (fds : Array FieldInfo := #[]) : ClassFile where
  minorVersion := 0
  majorVersion := 65
  constantPool := pool
  accessFlags := fl
  thisClass := this
  superClass := sup
  interfaces := ifs
  fields := fds
  methods := ms
  attributes := attrs
def plain (name : String) (sup : Option ClassId) : Class where
  name := name
  kind := .ordinary
  loader := none
  accessFlags := 33
  super := sup
  interfaces := #[]
  cf := none
  fields := #[]
  methods := #[]
  instanceTypes := #[]
  staticTypes := #[]
  resolved := #[]
  callSites := []
  init := .initialized
  statics := none
  mirror := none

def pool0 : Array CpInfo := pool [(5, u "<init>"), (0, u "()V"), (1, .class_ 10), (1, u "java/lang/Object")] 113

def k0c0 : Code := { maxStack := 0, maxLocals := 1, code := object_method_1_code, exceptionTable := #[], attributes := #[] }
def k0m0 : Method := { name := "<init>", desc := "()V", sig := { parameters := [], returnType := none }, accessFlags := 1, code := some k0c0 }
/-- java/lang/Object -/
def k0 : Class := { plain "java/lang/Object" none with
  accessFlags := 33
  interfaces := #[]
  cf := some (fileOf pool0 8 #[] #[{ accessFlags := 1, nameIndex := 5, descriptorIndex := 6, attributes := #[] }] 33 0 #[] #[])
  fields := #[]
  methods := #[k0m0]
  instanceTypes := #[]
  staticTypes := #[]
  resolved := Array.replicate 124 none
  statics := none }

def pool1 : Array CpInfo := pool [(2, .class_ 4), (1, u "java/lang/Object"), (0, u "<init>"), (0, u "()V"), (0, .methodref 8 9), (0, .class_ 10), (0, .nameAndType 11 12), (0, u "com/example/weighted_worlds/weightedworlds/Place"), (0, u "start"), (0, u "()Lcom/example/weighted_worlds/weightedworlds/Place;"), (0, .methodref 8 14), (0, .nameAndType 15 16), (0, u "compareTo"), (0, u "(Lcom/example/weighted_worlds/weightedworlds/Place;)I"), (0, .methodref 8 18), (0, .nameAndType 19 20), (0, u "restating"), (0, u "()Lcom/example/weighted_worlds/weightedworlds/Place$Turn;"), (0, .methodref 22 23), (0, .class_ 24), (0, .nameAndType 25 12), (0, u "com/example/weighted_worlds/weightedworlds/Place$Turn"), (0, u "next"), (0, .methodref 8 27), (0, .nameAndType 28 29), (0, u "turn"), (0, u "(I)Lcom/example/weighted_worlds/weightedworlds/Place$Turn;"), (0, .methodref 8 31), (0, .nameAndType 32 33), (0, u "last"), (0, u "(Lcom/example/weighted_worlds/weightedworlds/Place;Lcom/example/weighted_worlds/weightedworlds/Place;)Lcom/example/weighted_worlds/weightedworlds/Place;"), (0, .class_ 35), (0, u "com/example/weighted_worlds/weightedworlds/PlaceStartPinLaw"), (2, u "law"), (0, u "(II)Z")] 5

def k1m0 : Method := { name := "<init>", desc := "()V", sig := { parameters := [], returnType := none }, accessFlags := 1, code := none }
def k1c1 : Code := { maxStack := 2, maxLocals := 6, code := code, exceptionTable := #[], attributes := #[] }
def k1m1 : Method := { name := "law", desc := "(II)Z", sig := { parameters := [.int, .int], returnType := some .boolean }, accessFlags := 9, code := some k1c1 }
/-- com/example/weighted_worlds/weightedworlds/PlaceStartPinLaw -/
def k1 : Class := { plain "com/example/weighted_worlds/weightedworlds/PlaceStartPinLaw" (some 0) with
  accessFlags := 49
  interfaces := #[]
  cf := some (fileOf pool1 34 #[] #[{ accessFlags := 1, nameIndex := 5, descriptorIndex := 6, attributes := #[] }, { accessFlags := 9, nameIndex := 38, descriptorIndex := 39, attributes := #[] }] 49 2 #[] #[])
  fields := #[]
  methods := #[k1m0, k1m1]
  instanceTypes := #[]
  staticTypes := #[]
  resolved := Array.replicate 45 none
  statics := none }

def pool2 : Array CpInfo := pool [(1, .class_ 2), (0, u "java/lang/Comparable"), (0, .class_ 4), (0, u "java/lang/Object")] 7

/-- java/lang/Comparable -/
def k2 : Class := { plain "java/lang/Comparable" (some 0) with
  accessFlags := 1537
  interfaces := #[]
  cf := some (fileOf pool2 1 #[] #[] 1537 3 #[] #[])
  fields := #[]
  methods := #[]
  instanceTypes := #[]
  staticTypes := #[]
  resolved := Array.replicate 12 none
  statics := none }

def pool3 : Array CpInfo := pool [(1, .methodref 2 3), (0, .class_ 4), (0, .nameAndType 5 6), (0, u "java/lang/Object"), (0, u "<init>"), (0, u "()V"), (0, .fieldref 8 9), (0, .class_ 10), (0, .nameAndType 11 12), (0, u "com/example/weighted_worlds/weightedworlds/Place"), (0, u "at"), (0, u "Lcom/example/weighted_worlds/weightedworlds/Place;"), (0, .fieldref 8 14), (0, .nameAndType 15 16), (0, u "depth"), (0, u "I"), (0, .methodref 8 18), (0, .nameAndType 19 20), (0, u "jumpBelow"), (0, u "(Lcom/example/weighted_worlds/weightedworlds/Place;)Lcom/example/weighted_worlds/weightedworlds/Place;"), (0, .fieldref 8 22), (0, .nameAndType 23 12), (0, u "jump"), (0, .fieldref 8 25), (0, .nameAndType 26 16), (0, u "rank"), (0, .fieldref 8 28), (0, .nameAndType 29 16), (0, u "turn"), (0, .fieldref 8 31), (0, .nameAndType 32 16), (0, u "conjunct"), (0, .fieldref 8 34), (0, .nameAndType 35 16), (0, u "made"), (0, .methodref 8 37), (0, .nameAndType 5 38), (0, u "(Lcom/example/weighted_worlds/weightedworlds/Place;IIII)V"), (0, .class_ 40), (0, u "com/example/weighted_worlds/weightedworlds/Place$Turn"), (0, .fieldref 8 42), (0, .nameAndType 43 16), (0, u "turns"), (0, .methodref 39 45), (0, .nameAndType 5 46), (0, u "(Lcom/example/weighted_worlds/weightedworlds/Place;II)V"), (0, .methodref 8 48), (0, .nameAndType 49 50), (0, u "compareTo"), (0, u "(Lcom/example/weighted_worlds/weightedworlds/Place;)I"), (0, .methodref 52 53), (0, .class_ 54), (0, .nameAndType 55 56), (0, u "java/lang/Integer"), (0, u "compare"), (0, u "(II)I"), (0, .class_ 58), (0, u "java/lang/Comparable"), (3, u "start"), (0, u "()Lcom/example/weighted_worlds/weightedworlds/Place;"), (0, u "(I)Lcom/example/weighted_worlds/weightedworlds/Place$Turn;"), (0, u "restating"), (0, u "()Lcom/example/weighted_worlds/weightedworlds/Place$Turn;"), (0, u "last"), (0, u "(Lcom/example/weighted_worlds/weightedworlds/Place;Lcom/example/weighted_worlds/weightedworlds/Place;)Lcom/example/weighted_worlds/weightedworlds/Place;")] 9

def k3c0 : Code := { maxStack := 3, maxLocals := 6, code := prog_15_method_1_code, exceptionTable := #[], attributes := #[] }
def k3m0 : Method := { name := "<init>", desc := "(Lcom/example/weighted_worlds/weightedworlds/Place;IIII)V", sig := { parameters := [(.object "com/example/weighted_worlds/weightedworlds/Place"), .int, .int, .int, .int], returnType := none }, accessFlags := 2, code := some k3c0 }
def k3c1 : Code := { maxStack := 3, maxLocals := 3, code := prog_15_method_2_code, exceptionTable := #[], attributes := #[] }
def k3m1 : Method := { name := "jumpBelow", desc := "(Lcom/example/weighted_worlds/weightedworlds/Place;)Lcom/example/weighted_worlds/weightedworlds/Place;", sig := { parameters := [(.object "com/example/weighted_worlds/weightedworlds/Place")], returnType := some (.object "com/example/weighted_worlds/weightedworlds/Place") }, accessFlags := 10, code := some k3c1 }
def k3c2 : Code := { maxStack := 7, maxLocals := 0, code := prog_15_method_3_code, exceptionTable := #[], attributes := #[] }
def k3m2 : Method := { name := "start", desc := "()Lcom/example/weighted_worlds/weightedworlds/Place;", sig := { parameters := [], returnType := some (.object "com/example/weighted_worlds/weightedworlds/Place") }, accessFlags := 8, code := some k3c2 }
def k3c3 : Code := { maxStack := 8, maxLocals := 2, code := prog_15_method_4_code, exceptionTable := #[], attributes := #[] }
def k3m3 : Method := { name := "turn", desc := "(I)Lcom/example/weighted_worlds/weightedworlds/Place$Turn;", sig := { parameters := [.int], returnType := some (.object "com/example/weighted_worlds/weightedworlds/Place$Turn") }, accessFlags := 0, code := some k3c3 }
def k3c4 : Code := { maxStack := 5, maxLocals := 1, code := prog_15_method_5_code, exceptionTable := #[], attributes := #[] }
def k3m4 : Method := { name := "restating", desc := "()Lcom/example/weighted_worlds/weightedworlds/Place$Turn;", sig := { parameters := [], returnType := some (.object "com/example/weighted_worlds/weightedworlds/Place$Turn") }, accessFlags := 0, code := some k3c4 }
def k3c5 : Code := { maxStack := 2, maxLocals := 2, code := prog_15_method_6_code, exceptionTable := #[], attributes := #[] }
def k3m5 : Method := { name := "last", desc := "(Lcom/example/weighted_worlds/weightedworlds/Place;Lcom/example/weighted_worlds/weightedworlds/Place;)Lcom/example/weighted_worlds/weightedworlds/Place;", sig := { parameters := [(.object "com/example/weighted_worlds/weightedworlds/Place"), (.object "com/example/weighted_worlds/weightedworlds/Place")], returnType := some (.object "com/example/weighted_worlds/weightedworlds/Place") }, accessFlags := 8, code := some k3c5 }
def k3c6 : Code := { maxStack := 2, maxLocals := 5, code := prog_15_method_7_code, exceptionTable := #[], attributes := #[] }
def k3m6 : Method := { name := "compareTo", desc := "(Lcom/example/weighted_worlds/weightedworlds/Place;)I", sig := { parameters := [(.object "com/example/weighted_worlds/weightedworlds/Place")], returnType := some .int }, accessFlags := 1, code := some k3c6 }
/-- com/example/weighted_worlds/weightedworlds/Place -/
def k3 : Class := { plain "com/example/weighted_worlds/weightedworlds/Place" (some 0) with
  accessFlags := 48
  interfaces := #[2]
  cf := some (fileOf pool3 8 #[.nestMembers #[39]] #[{ accessFlags := 2, nameIndex := 5, descriptorIndex := 38, attributes := #[] }, { accessFlags := 10, nameIndex := 19, descriptorIndex := 20, attributes := #[] }, { accessFlags := 8, nameIndex := 62, descriptorIndex := 63, attributes := #[] }, { accessFlags := 0, nameIndex := 29, descriptorIndex := 64, attributes := #[] }, { accessFlags := 0, nameIndex := 65, descriptorIndex := 66, attributes := #[] }, { accessFlags := 8, nameIndex := 67, descriptorIndex := 68, attributes := #[] }, { accessFlags := 1, nameIndex := 49, descriptorIndex := 50, attributes := #[] }] 48 2 #[57] #[{ accessFlags := 18, nameIndex := 11, descriptorIndex := 12, attributes := #[] }, { accessFlags := 18, nameIndex := 23, descriptorIndex := 12, attributes := #[] }, { accessFlags := 18, nameIndex := 15, descriptorIndex := 16, attributes := #[] }, { accessFlags := 18, nameIndex := 26, descriptorIndex := 16, attributes := #[] }, { accessFlags := 18, nameIndex := 29, descriptorIndex := 16, attributes := #[] }, { accessFlags := 18, nameIndex := 32, descriptorIndex := 16, attributes := #[] }, { accessFlags := 18, nameIndex := 35, descriptorIndex := 16, attributes := #[] }, { accessFlags := 2, nameIndex := 43, descriptorIndex := 16, attributes := #[] }])
  fields := #[{ name := "at", type := (.object "com/example/weighted_worlds/weightedworlds/Place"), accessFlags := 18, slot := 0, constantValue := 0 }, { name := "jump", type := (.object "com/example/weighted_worlds/weightedworlds/Place"), accessFlags := 18, slot := 1, constantValue := 0 }, { name := "depth", type := .int, accessFlags := 18, slot := 2, constantValue := 0 }, { name := "rank", type := .int, accessFlags := 18, slot := 3, constantValue := 0 }, { name := "turn", type := .int, accessFlags := 18, slot := 4, constantValue := 0 }, { name := "conjunct", type := .int, accessFlags := 18, slot := 5, constantValue := 0 }, { name := "made", type := .int, accessFlags := 18, slot := 6, constantValue := 0 }, { name := "turns", type := .int, accessFlags := 2, slot := 7, constantValue := 0 }]
  methods := #[k3m0, k3m1, k3m2, k3m3, k3m4, k3m5, k3m6]
  instanceTypes := #[(.object "com/example/weighted_worlds/weightedworlds/Place"), (.object "com/example/weighted_worlds/weightedworlds/Place"), .int, .int, .int, .int, .int, .int]
  staticTypes := #[]
  resolved := ((Array.replicate 78 none).setIfInBounds 44 (some (.method { cls := 9, idx := 0 }))).setIfInBounds 39 (some (.cls 9))
  statics := none }

def pool4 : Array CpInfo := pool [(1, .class_ 2), (0, u "java/io/Serializable"), (0, .class_ 4), (0, u "java/lang/Object")] 2

/-- java/io/Serializable -/
def k4 : Class := { plain "java/io/Serializable" (some 0) with
  accessFlags := 1537
  interfaces := #[]
  cf := some (fileOf pool4 1 #[] #[] 1537 3 #[] #[])
  fields := #[]
  methods := #[]
  instanceTypes := #[]
  staticTypes := #[]
  resolved := Array.replicate 7 none
  statics := none }

def pool5 : Array CpInfo := pool [(2, .class_ 4), (1, u "java/lang/Object"), (0, u "<init>"), (0, u "()V"), (1, .class_ 10), (1, u "java/lang/Number"), (2, .class_ 14), (0, u "java/io/Serializable"), (0, u "serialVersionUID"), (0, u "J")] 20

def k5m0 : Method := { name := "<init>", desc := "()V", sig := { parameters := [], returnType := none }, accessFlags := 1, code := none }
/-- java/lang/Number -/
def k5 : Class := { plain "java/lang/Number" (some 0) with
  accessFlags := 1057
  interfaces := #[4]
  cf := some (fileOf pool5 8 #[] #[{ accessFlags := 1, nameIndex := 5, descriptorIndex := 6, attributes := #[] }] 1057 2 #[13] #[{ accessFlags := 26, nameIndex := 15, descriptorIndex := 16, attributes := #[] }])
  fields := #[{ name := "serialVersionUID", type := .long, accessFlags := 26, slot := 0, constantValue := 0 }]
  methods := #[k5m0]
  instanceTypes := #[]
  staticTypes := #[.long]
  resolved := Array.replicate 37 none
  statics := none }

def pool6 : Array CpInfo := pool [(1, .class_ 2), (0, u "java/lang/constant/Constable"), (0, .class_ 4), (0, u "java/lang/Object")] 6

/-- java/lang/constant/Constable -/
def k6 : Class := { plain "java/lang/constant/Constable" (some 0) with
  accessFlags := 1537
  interfaces := #[]
  cf := some (fileOf pool6 1 #[] #[] 1537 3 #[] #[])
  fields := #[]
  methods := #[]
  instanceTypes := #[]
  staticTypes := #[]
  resolved := Array.replicate 11 none
  statics := none }

def pool7 : Array CpInfo := pool [(1, .class_ 2), (0, u "java/lang/constant/ConstantDesc"), (0, .class_ 4), (0, u "java/lang/Object")] 32

/-- java/lang/constant/ConstantDesc -/
def k7 : Class := { plain "java/lang/constant/ConstantDesc" (some 0) with
  accessFlags := 1537
  interfaces := #[]
  cf := some (fileOf pool7 1 #[] #[] 1537 3 #[] #[])
  fields := #[]
  methods := #[]
  instanceTypes := #[]
  staticTypes := #[]
  resolved := Array.replicate 37 none
  statics := none }

def pool8 : Array CpInfo := pool [(1, .class_ 2), (0, u "java/lang/Integer"), (16, u "digits"), (0, u "[C"), (39, u "(II)I"), (24, u "DigitOnes"), (0, u "[B"), (2, u "DigitTens"), (99, .class_ 190), (0, u "java/lang/Integer$IntegerCache"), (3, u "I"), (8, .class_ 204), (0, u "java/lang/Number"), (2, u "value"), (53, u "compare"), (40, u "TYPE"), (0, u "Ljava/lang/Class;"), (0, .class_ 305), (0, u "java/lang/Comparable"), (0, .class_ 307), (0, u "java/lang/constant/Constable"), (0, .class_ 309), (0, u "java/lang/constant/ConstantDesc"), (0, u "MIN_VALUE"), (1, u "MAX_VALUE"), (3, u "SIZE"), (1, u "BYTES"), (1, u "serialVersionUID"), (0, u "J")] 131

def k8c0 : Code := { maxStack := 2, maxLocals := 2, code := jdk_33_method_40_code, exceptionTable := #[], attributes := #[] }
def k8m0 : Method := { name := "compare", desc := "(II)I", sig := { parameters := [.int, .int], returnType := some .int }, accessFlags := 9, code := some k8c0 }
/-- java/lang/Integer -/
def k8 : Class := { plain "java/lang/Integer" (some 5) with
  accessFlags := 49
  interfaces := #[2, 6, 7]
  cf := some (fileOf pool8 1 #[.nestMembers #[189]] #[{ accessFlags := 9, nameIndex := 261, descriptorIndex := 60, attributes := #[] }] 49 203 #[304, 306, 308] #[{ accessFlags := 25, nameIndex := 310, descriptorIndex := 194, attributes := #[] }, { accessFlags := 25, nameIndex := 312, descriptorIndex := 194, attributes := #[] }, { accessFlags := 25, nameIndex := 302, descriptorIndex := 303, attributes := #[] }, { accessFlags := 24, nameIndex := 19, descriptorIndex := 20, attributes := #[] }, { accessFlags := 24, nameIndex := 89, descriptorIndex := 86, attributes := #[] }, { accessFlags := 24, nameIndex := 85, descriptorIndex := 86, attributes := #[] }, { accessFlags := 18, nameIndex := 207, descriptorIndex := 194, attributes := #[] }, { accessFlags := 25, nameIndex := 316, descriptorIndex := 194, attributes := #[] }, { accessFlags := 25, nameIndex := 318, descriptorIndex := 194, attributes := #[] }, { accessFlags := 26, nameIndex := 320, descriptorIndex := 321, attributes := #[] }])
  fields := #[{ name := "MIN_VALUE", type := .int, accessFlags := 25, slot := 0, constantValue := 0 }, { name := "MAX_VALUE", type := .int, accessFlags := 25, slot := 1, constantValue := 0 }, { name := "TYPE", type := (.object "java/lang/Class"), accessFlags := 25, slot := 2, constantValue := 0 }, { name := "digits", type := (.array .char), accessFlags := 24, slot := 3, constantValue := 0 }, { name := "DigitTens", type := (.array .byte), accessFlags := 24, slot := 4, constantValue := 0 }, { name := "DigitOnes", type := (.array .byte), accessFlags := 24, slot := 5, constantValue := 0 }, { name := "value", type := .int, accessFlags := 18, slot := 0, constantValue := 0 }, { name := "SIZE", type := .int, accessFlags := 25, slot := 6, constantValue := 0 }, { name := "BYTES", type := .int, accessFlags := 25, slot := 7, constantValue := 0 }, { name := "serialVersionUID", type := .long, accessFlags := 26, slot := 8, constantValue := 0 }]
  methods := #[k8m0]
  instanceTypes := #[.int]
  staticTypes := #[.int, .int, (.object "java/lang/Class"), (.array .char), (.array .byte), (.array .byte), .int, .int, .long]
  resolved := Array.replicate 453 none
  statics := none }

def pool9 : Array CpInfo := pool [(1, .methodref 2 3), (0, .class_ 4), (0, .nameAndType 5 6), (0, u "com/example/weighted_worlds/weightedworlds/Place$Turn"), (0, u "<init>"), (0, u "(Lcom/example/weighted_worlds/weightedworlds/Place;III)V"), (0, .methodref 8 9), (0, .class_ 10), (0, .nameAndType 5 11), (0, u "java/lang/Object"), (0, u "()V"), (0, .fieldref 2 13), (0, .nameAndType 14 15), (0, u "at"), (0, u "Lcom/example/weighted_worlds/weightedworlds/Place;"), (0, .fieldref 2 17), (0, .nameAndType 18 19), (0, u "rank"), (0, u "I"), (0, .fieldref 2 21), (0, .nameAndType 22 19), (0, u "turn"), (0, .fieldref 2 24), (0, .nameAndType 25 19), (0, u "conjunct"), (0, .class_ 27), (0, u "com/example/weighted_worlds/weightedworlds/Place"), (0, .fieldref 2 29), (0, .nameAndType 30 19), (0, u "made"), (0, .methodref 26 32), (0, .nameAndType 5 33), (0, u "(Lcom/example/weighted_worlds/weightedworlds/Place;IIII)V"), (0, u "RESTATING"), (2, u "(Lcom/example/weighted_worlds/weightedworlds/Place;II)V"), (4, u "next"), (0, u "()Lcom/example/weighted_worlds/weightedworlds/Place;")] 5

def k9c0 : Code := { maxStack := 5, maxLocals := 4, code := prog_16_method_1_code, exceptionTable := #[], attributes := #[] }
def k9m0 : Method := { name := "<init>", desc := "(Lcom/example/weighted_worlds/weightedworlds/Place;II)V", sig := { parameters := [(.object "com/example/weighted_worlds/weightedworlds/Place"), .int, .int], returnType := none }, accessFlags := 2, code := some k9c0 }
def k9c1 : Code := { maxStack := 2, maxLocals := 5, code := prog_16_method_2_code, exceptionTable := #[], attributes := #[] }
def k9m1 : Method := { name := "<init>", desc := "(Lcom/example/weighted_worlds/weightedworlds/Place;III)V", sig := { parameters := [(.object "com/example/weighted_worlds/weightedworlds/Place"), .int, .int, .int], returnType := none }, accessFlags := 2, code := some k9c1 }
def k9c2 : Code := { maxStack := 10, maxLocals := 1, code := prog_16_method_4_code, exceptionTable := #[], attributes := #[] }
def k9m2 : Method := { name := "next", desc := "()Lcom/example/weighted_worlds/weightedworlds/Place;", sig := { parameters := [], returnType := some (.object "com/example/weighted_worlds/weightedworlds/Place") }, accessFlags := 0, code := some k9c2 }
/-- com/example/weighted_worlds/weightedworlds/Place$Turn -/
def k9 : Class := { plain "com/example/weighted_worlds/weightedworlds/Place$Turn" (some 0) with
  accessFlags := 48
  interfaces := #[]
  cf := some (fileOf pool9 2 #[.nestHost 26] #[{ accessFlags := 2, nameIndex := 5, descriptorIndex := 37, attributes := #[] }, { accessFlags := 2, nameIndex := 5, descriptorIndex := 6, attributes := #[] }, { accessFlags := 0, nameIndex := 42, descriptorIndex := 43, attributes := #[] }] 48 8 #[] #[{ accessFlags := 26, nameIndex := 34, descriptorIndex := 19, attributes := #[] }, { accessFlags := 18, nameIndex := 14, descriptorIndex := 15, attributes := #[] }, { accessFlags := 18, nameIndex := 18, descriptorIndex := 19, attributes := #[] }, { accessFlags := 18, nameIndex := 22, descriptorIndex := 19, attributes := #[] }, { accessFlags := 18, nameIndex := 25, descriptorIndex := 19, attributes := #[] }, { accessFlags := 2, nameIndex := 30, descriptorIndex := 19, attributes := #[] }])
  fields := #[{ name := "RESTATING", type := .int, accessFlags := 26, slot := 0, constantValue := 0 }, { name := "at", type := (.object "com/example/weighted_worlds/weightedworlds/Place"), accessFlags := 18, slot := 0, constantValue := 0 }, { name := "rank", type := .int, accessFlags := 18, slot := 1, constantValue := 0 }, { name := "turn", type := .int, accessFlags := 18, slot := 2, constantValue := 0 }, { name := "conjunct", type := .int, accessFlags := 18, slot := 3, constantValue := 0 }, { name := "made", type := .int, accessFlags := 2, slot := 4, constantValue := 0 }]
  methods := #[k9m0, k9m1, k9m2]
  instanceTypes := #[(.object "com/example/weighted_worlds/weightedworlds/Place"), .int, .int, .int, .int]
  staticTypes := #[.int]
  resolved := Array.replicate 49 none
  statics := none }

def pool10 : Array CpInfo := pool [(1, u "java/lang/Cloneable"), (0, .class_ 1), (0, u "java/lang/Object"), (0, .class_ 3)] 3

/-- java/lang/Cloneable -/
def k10 : Class := { plain "java/lang/Cloneable" (some 0) with
  accessFlags := 1537
  interfaces := #[]
  cf := some (fileOf pool10 2 #[] #[] 1537 4 #[] #[])
  fields := #[]
  methods := #[]
  instanceTypes := #[]
  staticTypes := #[]
  resolved := Array.replicate 8 none
  statics := none }

/-- the primitive byte -/
def k11 : Class := { plain "byte" none with kind := .primitive 'B', accessFlags := 0x411 }
/-- [B -/
def k12 : Class := { plain "[B" (some 0) with kind := .array 11 .byte, interfaces := #[10, 4], accessFlags := 1041 }

/-- the primitive int -/
def k13 : Class := { plain "int" none with kind := .primitive 'I', accessFlags := 0x411 }
/-- [I -/
def k14 : Class := { plain "[I" (some 0) with kind := .array 13 .int, interfaces := #[10, 4], accessFlags := 1041 }

def heap : Heap := #[]
def classes : Array Class := #[k0, k1, k2, k3, k4, k5, k6, k7, k8, k9, k10, k11, k12, k13, k14]
def interned : List (Array UInt16 × Addr) := []
def slotsUsed : Nat := 0
def theMethod : MethodId := ⟨1, 1⟩
def args0 : Array Value := #[.int 5, .int 9]
def aboutOver (below : List Frame) : State where
  vm := { classes := classes, interned := interned.toArray }
  heap := heap
  slotsUsed := slotsUsed
  threads := #[{ frames := .invoking theMethod args0 :: below }]
def below0 : List Frame := [.native { method := ⟨0, 0⟩, args := #[] }]
def about1 : State := aboutOver below0
def p0 : Program := .bare "" "" ""
def e0 : Env := launch0.env 0 0 0
theorem w_frames : about1.frames = Frame.invoking theMethod args0 :: below0 := rfl
set_option maxRecDepth 65536 in
theorem w_args : argsFit about1.vm theMethod args0 = true := by decide +kernel
set_option maxRecDepth 65536 in
theorem w_heap : heapFits about1 = true := by decide +kernel
set_option maxRecDepth 65536 in
theorem w_runnable : about1.curStatus? = some .runnable := by decide +kernel
set_option maxRecDepth 65536 in
theorem w_alone : about1.alone = true := by decide +kernel
set_option maxRecDepth 65536 in
theorem w_named : about1.methodNamed? x = some theMethod := by decide +kernel
set_option maxRecDepth 65536 in
theorem w_hears : about1.hears theMethod below0 = true := by decide +kernel
set_option maxRecDepth 65536 in
theorem w_ripe : about1.ripe theMethod args0 below0 = true := by decide +kernel
theorem w_running : about1.status = .running := rfl
set_option maxRecDepth 65536 in
theorem w_room : about1.hasRoom e0.platform room_1 = true :=
  launch0.hasRoom_least _ room_1 (by decide +kernel) (by decide +kernel) (by decide +kernel) (by decide +kernel) (by decide +kernel) (by decide +kernel)
theorem allAtoms_all (ts : List Jvm.Cond) (a : Array Jvm.Value) (st : Jvm.State) : (allAtoms ts).before a st = ts.all (fun c => c.before a st) := by
  induction ts with
  | nil => rfl
  | cons c t ih =>
    show (Jvm.Cond.and c (allAtoms t)).before a st = _
    rw [Jvm.Cond.before_and, ih, List.all_cons]
def words1 : List Jvm.Cond := Jvm.Cond.code x code maxLocals ret :: tables_1
/-- a 'code' word, met by the world's own term for the bytes: nothing is compared byte by byte -/
theorem code_word {y : MethodName} {bytes : ByteArray} {mx : Nat} {rt : Option FieldType} {a : Array Value} {s : State} {m : MethodId} {meth : Method} {c : Code} (h1 : s.methodNamed? y = some m) (h2 : s.vm.method? m = some meth) (h3 : meth.code = some c) (h4 : c.code = bytes)
    (h5 : (c.maxLocals == mx && c.exceptionTable.isEmpty && decide (c.maxStack ≤ mostOperands) && decide (meth.sig.returnType = rt) && !meth.locks && decide (parseMethodDescriptor y.desc = some meth.sig)) = true) : (Jvm.Cond.code y bytes mx rt).before a s = true := by
  simp only [Bool.and_eq_true, beq_iff_eq, Bool.not_eq_true', decide_eq_true_eq] at h5
  obtain ⟨⟨⟨⟨⟨g1, g2⟩, g3⟩, g4⟩, g5⟩, g6⟩ := h5
  simp [Cond.before, Cond.holds, Cond.value, h1, h2, h3, h4, g1, g2, g3, g4, g5, g6]
def isCode : Jvm.Cond → Bool
  | .code _ _ _ _ => true
  | _ => false
theorem all_split {L : List Jvm.Cond} {P : Jvm.Cond → Bool} (h1 : L.all (fun c => isCode c || P c) = true) (h2 : ∀ c ∈ L.filter isCode, P c = true) : L.all P = true := by
  refine List.all_eq_true.mpr fun c hc => ?_
  have h := List.all_eq_true.mp h1 c hc
  rcases Bool.eq_false_or_eq_true (isCode c) with hi | hi
  · exact h2 c (List.mem_filter.mpr ⟨hc, hi⟩)
  · simpa [hi] using h
set_option maxRecDepth 65536 in
theorem w_c0 : (Jvm.Cond.code x code maxLocals ret).before args0 about1 = true := code_word (m := ⟨1, 1⟩) (meth := k1m1) (c := k1c1) (by decide +kernel) rfl rfl rfl (by decide +kernel)
set_option maxRecDepth 65536 in
theorem w_c1 : (Jvm.Cond.code ({ cls := "com/example/weighted_worlds/weightedworlds/Place", name := "start", desc := "()Lcom/example/weighted_worlds/weightedworlds/Place;" } : Jvm.MethodName) prog_15_method_3_code (0 : Nat) (Option.some (Jvm.ClassFile.FieldType.object "com/example/weighted_worlds/weightedworlds/Place"))).before args0 about1 = true := code_word (m := ⟨3, 2⟩) (meth := k3m2) (c := k3c2) (by decide +kernel) rfl rfl rfl (by decide +kernel)
set_option maxRecDepth 65536 in
theorem w_c2 : (Jvm.Cond.code ({ cls := "com/example/weighted_worlds/weightedworlds/Place", name := "<init>", desc := "(Lcom/example/weighted_worlds/weightedworlds/Place;IIII)V" } : Jvm.MethodName) prog_15_method_1_code (6 : Nat) (Option.none : Option Jvm.ClassFile.FieldType)).before args0 about1 = true := code_word (m := ⟨3, 0⟩) (meth := k3m0) (c := k3c0) (by decide +kernel) rfl rfl rfl (by decide +kernel)
set_option maxRecDepth 65536 in
theorem w_c3 : (Jvm.Cond.code ({ cls := "java/lang/Object", name := "<init>", desc := "()V" } : Jvm.MethodName) object_method_1_code (1 : Nat) (Option.none : Option Jvm.ClassFile.FieldType)).before args0 about1 = true := code_word (m := ⟨0, 0⟩) (meth := k0m0) (c := k0c0) (by decide +kernel) rfl rfl rfl (by decide +kernel)
set_option maxRecDepth 65536 in
theorem w_c4 : (Jvm.Cond.code ({ cls := "com/example/weighted_worlds/weightedworlds/Place", name := "compareTo", desc := "(Lcom/example/weighted_worlds/weightedworlds/Place;)I" } : Jvm.MethodName) prog_15_method_7_code (5 : Nat) (Option.some Jvm.ClassFile.FieldType.int)).before args0 about1 = true := code_word (m := ⟨3, 6⟩) (meth := k3m6) (c := k3c6) (by decide +kernel) rfl rfl rfl (by decide +kernel)
set_option maxRecDepth 65536 in
theorem w_c5 : (Jvm.Cond.code ({ cls := "java/lang/Integer", name := "compare", desc := "(II)I" } : Jvm.MethodName) jdk_33_method_40_code (2 : Nat) (Option.some Jvm.ClassFile.FieldType.int)).before args0 about1 = true := code_word (m := ⟨8, 0⟩) (meth := k8m0) (c := k8c0) (by decide +kernel) rfl rfl rfl (by decide +kernel)
set_option maxRecDepth 65536 in
theorem w_c6 : (Jvm.Cond.code ({ cls := "com/example/weighted_worlds/weightedworlds/Place", name := "restating", desc := "()Lcom/example/weighted_worlds/weightedworlds/Place$Turn;" } : Jvm.MethodName) prog_15_method_5_code (1 : Nat) (Option.some (Jvm.ClassFile.FieldType.object "com/example/weighted_worlds/weightedworlds/Place$Turn"))).before args0 about1 = true := code_word (m := ⟨3, 4⟩) (meth := k3m4) (c := k3c4) (by decide +kernel) rfl rfl rfl (by decide +kernel)
set_option maxRecDepth 65536 in
theorem w_c7 : (Jvm.Cond.code ({ cls := "com/example/weighted_worlds/weightedworlds/Place$Turn", name := "<init>", desc := "(Lcom/example/weighted_worlds/weightedworlds/Place;II)V" } : Jvm.MethodName) prog_16_method_1_code (4 : Nat) (Option.none : Option Jvm.ClassFile.FieldType)).before args0 about1 = true := code_word (m := ⟨9, 0⟩) (meth := k9m0) (c := k9c0) (by decide +kernel) rfl rfl rfl (by decide +kernel)
set_option maxRecDepth 65536 in
theorem w_c8 : (Jvm.Cond.code ({ cls := "com/example/weighted_worlds/weightedworlds/Place$Turn", name := "<init>", desc := "(Lcom/example/weighted_worlds/weightedworlds/Place;III)V" } : Jvm.MethodName) prog_16_method_2_code (5 : Nat) (Option.none : Option Jvm.ClassFile.FieldType)).before args0 about1 = true := code_word (m := ⟨9, 1⟩) (meth := k9m1) (c := k9c1) (by decide +kernel) rfl rfl rfl (by decide +kernel)
set_option maxRecDepth 65536 in
theorem w_c9 : (Jvm.Cond.code ({ cls := "com/example/weighted_worlds/weightedworlds/Place$Turn", name := "next", desc := "()Lcom/example/weighted_worlds/weightedworlds/Place;" } : Jvm.MethodName) prog_16_method_4_code (1 : Nat) (Option.some (Jvm.ClassFile.FieldType.object "com/example/weighted_worlds/weightedworlds/Place"))).before args0 about1 = true := code_word (m := ⟨9, 2⟩) (meth := k9m2) (c := k9c2) (by decide +kernel) rfl rfl rfl (by decide +kernel)
set_option maxRecDepth 65536 in
theorem w_c10 : (Jvm.Cond.code ({ cls := "com/example/weighted_worlds/weightedworlds/Place", name := "turn", desc := "(I)Lcom/example/weighted_worlds/weightedworlds/Place$Turn;" } : Jvm.MethodName) prog_15_method_4_code (2 : Nat) (Option.some (Jvm.ClassFile.FieldType.object "com/example/weighted_worlds/weightedworlds/Place$Turn"))).before args0 about1 = true := code_word (m := ⟨3, 3⟩) (meth := k3m3) (c := k3c3) (by decide +kernel) rfl rfl rfl (by decide +kernel)
set_option maxRecDepth 65536 in
theorem w_c11 : (Jvm.Cond.code ({ cls := "com/example/weighted_worlds/weightedworlds/Place", name := "jumpBelow", desc := "(Lcom/example/weighted_worlds/weightedworlds/Place;)Lcom/example/weighted_worlds/weightedworlds/Place;" } : Jvm.MethodName) prog_15_method_2_code (3 : Nat) (Option.some (Jvm.ClassFile.FieldType.object "com/example/weighted_worlds/weightedworlds/Place"))).before args0 about1 = true := code_word (m := ⟨3, 1⟩) (meth := k3m1) (c := k3c1) (by decide +kernel) rfl rfl rfl (by decide +kernel)
set_option maxRecDepth 65536 in
theorem w_c12 : (Jvm.Cond.code ({ cls := "com/example/weighted_worlds/weightedworlds/Place", name := "last", desc := "(Lcom/example/weighted_worlds/weightedworlds/Place;Lcom/example/weighted_worlds/weightedworlds/Place;)Lcom/example/weighted_worlds/weightedworlds/Place;" } : Jvm.MethodName) prog_15_method_6_code (2 : Nat) (Option.some (Jvm.ClassFile.FieldType.object "com/example/weighted_worlds/weightedworlds/Place"))).before args0 about1 = true := code_word (m := ⟨3, 5⟩) (meth := k3m5) (c := k3c5) (by decide +kernel) rfl rfl rfl (by decide +kernel)
def codes1 : List Jvm.Cond := [Jvm.Cond.code x code maxLocals ret, Jvm.Cond.code ({ cls := "com/example/weighted_worlds/weightedworlds/Place", name := "start", desc := "()Lcom/example/weighted_worlds/weightedworlds/Place;" } : Jvm.MethodName) prog_15_method_3_code (0 : Nat) (Option.some (Jvm.ClassFile.FieldType.object "com/example/weighted_worlds/weightedworlds/Place")), Jvm.Cond.code ({ cls := "com/example/weighted_worlds/weightedworlds/Place", name := "<init>", desc := "(Lcom/example/weighted_worlds/weightedworlds/Place;IIII)V" } : Jvm.MethodName) prog_15_method_1_code (6 : Nat) (Option.none : Option Jvm.ClassFile.FieldType), Jvm.Cond.code ({ cls := "java/lang/Object", name := "<init>", desc := "()V" } : Jvm.MethodName) object_method_1_code (1 : Nat) (Option.none : Option Jvm.ClassFile.FieldType), Jvm.Cond.code ({ cls := "com/example/weighted_worlds/weightedworlds/Place", name := "compareTo", desc := "(Lcom/example/weighted_worlds/weightedworlds/Place;)I" } : Jvm.MethodName) prog_15_method_7_code (5 : Nat) (Option.some Jvm.ClassFile.FieldType.int), Jvm.Cond.code ({ cls := "java/lang/Integer", name := "compare", desc := "(II)I" } : Jvm.MethodName) jdk_33_method_40_code (2 : Nat) (Option.some Jvm.ClassFile.FieldType.int), Jvm.Cond.code ({ cls := "com/example/weighted_worlds/weightedworlds/Place", name := "restating", desc := "()Lcom/example/weighted_worlds/weightedworlds/Place$Turn;" } : Jvm.MethodName) prog_15_method_5_code (1 : Nat) (Option.some (Jvm.ClassFile.FieldType.object "com/example/weighted_worlds/weightedworlds/Place$Turn")), Jvm.Cond.code ({ cls := "com/example/weighted_worlds/weightedworlds/Place$Turn", name := "<init>", desc := "(Lcom/example/weighted_worlds/weightedworlds/Place;II)V" } : Jvm.MethodName) prog_16_method_1_code (4 : Nat) (Option.none : Option Jvm.ClassFile.FieldType), Jvm.Cond.code ({ cls := "com/example/weighted_worlds/weightedworlds/Place$Turn", name := "<init>", desc := "(Lcom/example/weighted_worlds/weightedworlds/Place;III)V" } : Jvm.MethodName) prog_16_method_2_code (5 : Nat) (Option.none : Option Jvm.ClassFile.FieldType), Jvm.Cond.code ({ cls := "com/example/weighted_worlds/weightedworlds/Place$Turn", name := "next", desc := "()Lcom/example/weighted_worlds/weightedworlds/Place;" } : Jvm.MethodName) prog_16_method_4_code (1 : Nat) (Option.some (Jvm.ClassFile.FieldType.object "com/example/weighted_worlds/weightedworlds/Place")), Jvm.Cond.code ({ cls := "com/example/weighted_worlds/weightedworlds/Place", name := "turn", desc := "(I)Lcom/example/weighted_worlds/weightedworlds/Place$Turn;" } : Jvm.MethodName) prog_15_method_4_code (2 : Nat) (Option.some (Jvm.ClassFile.FieldType.object "com/example/weighted_worlds/weightedworlds/Place$Turn")), Jvm.Cond.code ({ cls := "com/example/weighted_worlds/weightedworlds/Place", name := "jumpBelow", desc := "(Lcom/example/weighted_worlds/weightedworlds/Place;)Lcom/example/weighted_worlds/weightedworlds/Place;" } : Jvm.MethodName) prog_15_method_2_code (3 : Nat) (Option.some (Jvm.ClassFile.FieldType.object "com/example/weighted_worlds/weightedworlds/Place")), Jvm.Cond.code ({ cls := "com/example/weighted_worlds/weightedworlds/Place", name := "last", desc := "(Lcom/example/weighted_worlds/weightedworlds/Place;Lcom/example/weighted_worlds/weightedworlds/Place;)Lcom/example/weighted_worlds/weightedworlds/Place;" } : Jvm.MethodName) prog_15_method_6_code (2 : Nat) (Option.some (Jvm.ClassFile.FieldType.object "com/example/weighted_worlds/weightedworlds/Place"))]
set_option maxRecDepth 65536 in
theorem codes_eq : words1.filter isCode = codes1 := rfl
theorem w_codes : ∀ c ∈ words1.filter isCode, c.before args0 about1 = true := by
  rw [codes_eq]
  intro c hc
  simp only [codes1, List.mem_cons, List.not_mem_nil, or_false] at hc
  rcases hc with rfl | rfl | rfl | rfl | rfl | rfl | rfl | rfl | rfl | rfl | rfl | rfl | rfl
  · exact w_c0
  · exact w_c1
  · exact w_c2
  · exact w_c3
  · exact w_c4
  · exact w_c5
  · exact w_c6
  · exact w_c7
  · exact w_c8
  · exact w_c9
  · exact w_c10
  · exact w_c11
  · exact w_c12
set_option maxRecDepth 65536 in
theorem w_t1 : (words1.take 24).all (fun c => isCode c || c.before args0 about1) = true := by decide +kernel
set_option maxRecDepth 65536 in
theorem w_t2 : ((words1.drop 24).take 24).all (fun c => isCode c || c.before args0 about1) = true := by decide +kernel
set_option maxRecDepth 65536 in
theorem w_t3 : (((words1.drop 24).drop 24).take 24).all (fun c => isCode c || c.before args0 about1) = true := by decide +kernel
set_option maxRecDepth 65536 in
theorem w_t4 : (((words1.drop 24).drop 24).drop 24).all (fun c => isCode c || c.before args0 about1) = true := by decide +kernel
theorem w_tables : (allAtoms (Jvm.Cond.code x code maxLocals ret :: tables_1)).before args0 about1 = true := by
  rw [allAtoms_all]
  show words1.all (fun c => c.before args0 about1) = true
  refine all_split ?_ w_codes
  rw [← List.take_append_drop 24 words1, List.all_append, w_t1, ← List.take_append_drop 24 (words1.drop 24), List.all_append, w_t2, ← List.take_append_drop 24 ((words1.drop 24).drop 24), List.all_append, w_t3, w_t4]
  rfl
set_option maxRecDepth 65536 in
theorem w_case : (Jvm.Cond.and given_1 narrow_1).before args0 about1 = true := by decide +kernel
theorem w_applies : (headSpec (Jvm.Cond.code x code maxLocals ret :: tables_1) room_1).applies x e0.platform about1 = true :=
  (Spec.applies_iff w_frames).mpr ⟨w_running, w_runnable, w_alone, w_named, w_hears, w_ripe, w_room, w_tables⟩
theorem atStart : AtStart classFile x code maxLocals ret World_1 tables_1 room_1 Calls_1 rest_1 Pre_1 launch0 p0 e0 about1 theMethod args0 below0 :=
  ⟨lists_1, trivial, launch0.admits_env _ _ _, launch0.least_env, fairChoices_fair.cas, fairChoices_fair.clock, w_frames, w_args, w_heap, w_applies, trivial, trivial, w_case⟩
end start1
theorem witness_1 : WitnessClaimed_1 := ⟨start1.p0, start1.e0, start1.about1, start1.theMethod, start1.args0, start1.below0, start1.atStart⟩
end Jvm.Pilot.@@N@@
