import JvmDerived
import JvmDerived.Pilot.@@N@@Statement
import JvmDerived.Pilot.@@N@@Code
set_option linter.unusedVariables false
set_option linter.unusedSimpArgs false
@@BLOCK:TracedD.lean.txt@@
namespace Jvm.RoadKit
open Sem ClassFile Op Lib Jvm.Stand Jvm.Free Jvm.LawKit
section New
variable {p : Program} {l : Launch} {e : Env} {R : Room} {s : State} {m : MethodId} {args : Array Value} {below : List Frame} {meth : Method} {c : Code} {T : State} {locs : List Loc} {cells slots : Nat}
theorem retI (X : Stand p l e R s m args below meth c T locs cells slots) (hx : p.tables.exec = Jvm.exec) {pc : Nat} {Ls : Array Slot} {z : Int32} {rest : List Value} (hret : meth.sig.returnType = some .int) (hd : decode c.code pc = .ok (.ireturn, 1)) {fs : List Frame}
    (hl : ∀ (f : JFrame) (acts : List Action), f.method = m → f.locked = none → f.entered = [] → (doReturn e (T.setTop f) acts (some (.int z))).1 = T.setFrames fs) : Steps p.tables e below (T.setTop (mkF m pc Ls (.int z :: rest))) (T.setFrames fs) := by
  have hm' : T.vm.method? m = some meth := X.method'
  have hn : narrow .int (.int z) = .int z := rfl
  show Steps p.tables e below (T.setTop { method := m, pc := pc, locals := Ls, stack := _ :: rest, locked := none }) _
  jvm_step X.here [X.here.top, hx, hd, hm', hret, hn]
  first | (intro acts; rw [hl _ acts rfl rfl rfl]) | rw [hl _ _ rfl rfl rfl]
  exact Steps.refl _
theorem retJ (X : Stand p l e R s m args below meth c T locs cells slots) (hx : p.tables.exec = Jvm.exec) {pc : Nat} {Ls : Array Slot} {z : Int64} {rest : List Value} (hret : meth.sig.returnType = some .long) (hd : decode c.code pc = .ok (.lreturn, 1)) {fs : List Frame}
    (hl : ∀ (f : JFrame) (acts : List Action), f.method = m → f.locked = none → f.entered = [] → (doReturn e (T.setTop f) acts (some (.long z))).1 = T.setFrames fs) : Steps p.tables e below (T.setTop (mkF m pc Ls (.long z :: rest))) (T.setFrames fs) := by
  have hm' : T.vm.method? m = some meth := X.method'
  have hn : narrow .long (.long z) = .long z := rfl
  show Steps p.tables e below (T.setTop { method := m, pc := pc, locals := Ls, stack := _ :: rest, locked := none }) _
  jvm_step X.here [X.here.top, hx, hd, hm', hret, hn]
  first | (intro acts; rw [hl _ acts rfl rfl rfl]) | rw [hl _ _ rfl rfl rfl]
  exact Steps.refl _
theorem retD (X : Stand p l e R s m args below meth c T locs cells slots) (hx : p.tables.exec = Jvm.exec) {pc : Nat} {Ls : Array Slot} {z : UInt64} {rest : List Value} (hret : meth.sig.returnType = some .double) (hd : decode c.code pc = .ok (.dreturn, 1)) {fs : List Frame}
    (hl : ∀ (f : JFrame) (acts : List Action), f.method = m → f.locked = none → f.entered = [] → (doReturn e (T.setTop f) acts (some (.double z))).1 = T.setFrames fs) : Steps p.tables e below (T.setTop (mkF m pc Ls (.double z :: rest))) (T.setFrames fs) := by
  have hm' : T.vm.method? m = some meth := X.method'
  have hn : narrow .double (.double z) = .double z := rfl
  show Steps p.tables e below (T.setTop { method := m, pc := pc, locals := Ls, stack := _ :: rest, locked := none }) _
  jvm_step X.here [X.here.top, hx, hd, hm', hret, hn]
  first | (intro acts; rw [hl _ acts rfl rfl rfl]) | rw [hl _ _ rfl rfl rfl]
  exact Steps.refl _
end New
end Jvm.RoadKit
namespace Jvm.Pilot.@@N@@
open Jvm Jvm.ClassFile Sem Op Lib Jvm.Free Jvm.Stand Jvm.LawKit Jvm.RoadKit Bundle Jvm.Pilot.@@N@@.Jvm.D
theorem own_selp {s : State} {args : Array Value} {y : MethodName} {n : Nat} (wi : (Jvm.Cond.instantiable y.cls n).before args s = true) (hp : s.PrivateAt y) (hinst : (Jvm.Cond.instanceMethod y).before args s = true) (hy : y.cls ≠ "java/lang/invoke/MethodHandle" ∧ y.cls ≠ "java/lang/invoke/VarHandle") : (Jvm.Cond.selects y.cls y y).before args s = true := by
  obtain ⟨c, k, h1, h2, h3, h4, -⟩ := Cond.instantiable_spec wi
  exact selects_self_of_private h1 h2 (Bool.or_eq_false_iff.mp h4).1 hp hinst hy
section
variable {p : Program} {l : Launch} {e : Env} {R : Room} {s : State} {m : MethodId} {args : Array Value} {below : List Frame} {meth : Method} {c : Code} {T : State} {locs : List Loc} {cells slots : Nat} {Z : State} {a0 : Array Value} {h : Heap}
/-- a static callee that throws and may have interned: up to the note over the caller's frame (ThroughL's core with the wide end) -/
theorem own_callW (X : Stand p l e R s m args below meth c T locs cells slots) {g : JFrame} (hg : g.method = m) {y : MethodName} {S : Spec} {P : Array Value → State → Prop} {K : Program → Env → List Frame → State → Array Value → Prop} {Q : Array Value → State → Outcome → State → Prop}
    (hM : MetFree l y S P K Q) {mk : MethodId} {a' : Array Value} (happ : S.appliesLoose y e.platform (T.calling g mk a') = true) (hP : P a' (T.calling g mk a')) (hK : K p e (T.setTop g).frames (T.calling g mk a') a')
    {cls : String} {k n : Nat} (hQ : ∀ o t, Q a' (T.calling g mk a') o t → ThrewNewW cls (T.calling g mk a') [] k n o t) :
    ∃ (U : State) (a : Addr) (ce : Cell), Stand p l e R (s.setVm U.vm) m args below meth c U locs (cells + k) (slots + n) ∧ s.Since U.vm U.heap.size ∧ T.Warmed39 U.vm ∧
      (∀ acts target, Steps p.tables e below ((U.setTop g).pushFrame (.throwing a)) target → Steps p.tables e below (doInvoke e (T.setTop g) acts mk a').1 target) ∧
      U.heap[a]? = some ce ∧ ce.vm = .none ∧ U.vm.findClass cls = some ce.cls ∧ U.vm.assignable ce.cls ce.cls = true ∧ Ext T.heap U.heap := by
  have h : At T g.method c below := by rw [hg]; exact X.here
  obtain ⟨mid, hmid⟩ := h.above
  have hfr : (T.setTop g).frames = (.java g :: mid) ++ below := by rw [State.frames_setTop' g h.top, hmid]; rfl
  obtain ⟨o, s₂, hsteps, -, hend, hq⟩ := Steps.callFree hM p X.admits X.cas X.clock (acts := []) hfr happ hP hK
  rw [State.frames_setTop' g h.top] at hend
  obtain ⟨a, ce, kc, rfl, hce, hvm, hk', hcls, hself, hW₂, hB₂, e2, q2, q3, q4, q5, q6⟩ := hQ _ _ hq
  have e3 : s₂ = ({ (T.calling g mk a').setFrames s₂.frames with heap := s₂.heap, slotsUsed := s₂.slotsUsed } : State).setVm s₂.vm := by
    have : s₂ = ({ s₂ with vm := (T.calling g mk a').vm } : State).setVm s₂.vm := rfl
    rw [e2] at this
    exact this
  have hf₂ : s₂.frames = .throwing a :: .java g :: T.frames.tail := hend
  have hW' : T.Warmed39 s₂.vm := hW₂
  obtain ⟨g₀, hg0⟩ := Option.isSome_iff_exists.mp h.top
  obtain ⟨r, hr⟩ := State.topJava?_eq_some.mp hg0
  have hs₂ : s₂ = ((({ T with heap := s₂.heap, slotsUsed := s₂.slotsUsed } : State).setVm s₂.vm).setTop g).pushFrame (.throwing a) := by
    have hr' : (({ T with heap := s₂.heap, slotsUsed := s₂.slotsUsed } : State).setVm s₂.vm).frames = .java g₀ :: r := hr
    refine e3.trans ?_
    rw [hf₂, State.calling_eq h.top, State.setFrames_setFrames, State.pushFrame, State.frames_setTop _ hr', State.setTop_of_frames _ hr', State.setFrames_setFrames, hr]
    rfl
  have hsame : T.sameButNew ({ T with heap := s₂.heap, slotsUsed := s₂.slotsUsed } : State) [] k n := by
    refine ⟨?_, q2, q3, q4, q5, q6⟩
    obtain ⟨t, ht, -⟩ := State.frames_cons hr
    show ({ T with heap := s₂.heap, slotsUsed := s₂.slotsUsed } : State) = { T.setFrames T.frames with heap := s₂.heap, slotsUsed := s₂.slotsUsed }
    rw [State.setFrames_self ht]
  subst hg
  obtain ⟨X', hS⟩ := X.movedW (T₂ := (({ T with heap := s₂.heap, slotsUsed := s₂.slotsUsed } : State).setVm s₂.vm)) ((X.here.setHeapUsed s₂.heap s₂.slotsUsed).setVm hW'.alike) X.tail rfl rfl hW' hB₂ hsame
  rw [List.append_nil] at X'
  refine ⟨(({ T with heap := s₂.heap, slotsUsed := s₂.slotsUsed } : State).setVm s₂.vm), a, ce, X', hS, hW', fun acts target hrest => ?_, hce, hvm, hcls, hself, hsame.2.1, fun x cx hx => hsame.kept_nil hx⟩
  refine Steps.trans ?_ hrest
  rw [← hs₂, doInvoke_state]
  exact hsteps
/-- ... and the caller's one handler takes it -/
theorem own_caught (X : Stand p l e R s m args below meth c T locs cells slots) (hexec : p.tables.exec = Jvm.exec) (hZ : Z.Warmed39 s.vm) {own : String} {index : Nat} {y : MethodName} {bytes : ByteArray} {maxL : Nat} {ret : Option FieldType}
    (hown : s.vm.findClass own = some m.cls) (wl : (Cond.methodLink own index y).before a0 Z = true) (ws : (Cond.static y).before a0 Z = true) (wi : (Cond.initialized y.cls).before a0 Z = true) (wc : (Cond.code y bytes maxL ret).before a0 Z = true)
    (hy : y.cls ≠ "java/lang/invoke/MethodHandle" ∧ y.cls ≠ "java/lang/invoke/VarHandle") {rm : Room} {as' : Array Value} {cls : String}
    (hM : MetFree l y (head1 [Cond.code y bytes maxL ret] rm) (fun a U => a = as' ∧ Z.Warmed39 U.vm ∧ U.heap = h) (fun _ _ bl s _ => s.vm.MethodsKnown ∧ s.vm.FramesKnown bl) (fun _ U o U' => ThrewNewW cls U [] rm.cells rm.slots o U'))
    (hTK : s.vm.MethodsKnown) (hBelow : s.vm.FramesKnown below) (eT : T.heap = h)
    {g : JFrame} (hg : g.method = m) (hsize : g.locals.size = c.maxLocals) {argsL rest : List Value} (hlen : ∀ sig, parseMethodDescriptor y.desc = some sig → argsL.length = sig.parameters.length)
    (hstack : g.stack = argsL.reverse ++ rest) (has : argsL.toArray = as') (hdg : decode c.code g.pc = .ok (.invokestatic index, 3))
    (hf : rm.frames + 1 ≤ R.frames) {W : Nat} (hW : 2 * g.monitorRoom + (rest.map fun v => v.category).sum ≤ W) (hlo : W + (maxL + 11) + rm.locals ≤ R.locals) (hc : cells + rm.cells ≤ R.cells) (hsl : slots + rm.slots ≤ R.slots)
    (x : ExceptionTableEntry) (htab : c.exceptionTable.toList = [x]) (hcov : covers x g.pc = true) (h0 : x.catchType ≠ 0) (wk : (Cond.classLink own x.catchType cls).before a0 Z = true) :
    ∃ (a : Addr) (vm₁ : Vm) (T' : State) (h' : Heap), Stand p l e R (s.setVm vm₁) m args below meth c T' locs (cells + rm.cells) (slots + rm.slots) ∧ T'.heap = h' ∧ Ext h h' ∧ s.Since vm₁ h'.size ∧
      ∀ target, Steps p.tables e below (T'.setTop { g with pc := x.handlerPc, stack := [.ref a] }) target → Steps p.tables e below (T.setTop g) target := by
  obtain ⟨mk, hnamed⟩ := Cond.code_named (mvT (args := args) hZ wc)
  obtain ⟨methM, cM, hmethM, hcodeM, -, hlocalsM, -, -, -, hsigM⟩ := Cond.code_spec hnamed (mvT (args := args) hZ wc)
  have hstatic : methM.isStatic = true := Cond.static_spec hnamed hmethM (mvT (args := args) hZ ws)
  obtain ⟨kP, hkP, -⟩ := className_of_methodNamed hnamed
  have hinitP : kP.init = .initialized := Cond.initialized_spec (findClass_of_methodNamed hnamed) hkP (mvT (args := args) hZ wi)
  obtain ⟨vm₁, X₁, hstep₁⟩ := X.invokestatic hexec hown (mvT hZ wl) hnamed hmethM hstatic hkP hinitP hy (g := g) hg (argsL := argsL) (rest := rest) (hlen _ hsigM) hstack hdg
  have hWW : s.WarmedH (T.setVm vm₁).vm := X₁.warmed
  have hU : Z.Warmed39 (T.setVm vm₁).vm := wtrans hZ hWW
  obtain ⟨kP₁, hkP₁, heP₁⟩ := hWW.alike.2.2 _ _ hkP
  have hA : At (T.setVm vm₁) ({ g with stack := rest } : JFrame).method c below := by show At _ g.method c below; rw [hg]; exact X₁.here
  have happ : (head1 [Cond.code y bytes maxL ret] rm).appliesLoose y e.platform ((T.setVm vm₁).calling { g with stack := rest } mk argsL.toArray) = true :=
    Spec.appliesLoose_calling (g := { g with stack := rest }) hA (ig := .invokestatic index) (len := 3) hdg (X₁.named hnamed) hkP₁ (by rw [heP₁]; exact hinitP)
      (X₁.room_calling (g := { g with stack := rest }) (R' := rm) hsize (show (T.setVm vm₁).vm.method? mk = some methM by rw [hWW.alike.method?]; exact hmethM) hcodeM hf (by rw [hlocalsM]; show 2 * g.monitorRoom + (rest.map fun v => v.category).sum + (maxL + 11) + rm.locals ≤ R.locals; omega) hc hsl)
      (by show (Cond.and _ .tt).before _ _ = true; rw [Cond.before_and, mv hU wc]; rfl)
  obtain ⟨U, a, ce, X₂, hS₂, hW₂, hst, hce, hcv, hcc, hca, hext⟩ := own_callW X₁ (g := { g with stack := rest }) hg hM happ ⟨has, hU, eT⟩ (known_frames X₁ (g := { g with stack := rest }) hg hTK hBelow) (fun o t q => q)
  have hal : s.vm.Alike U.vm := hWW.alike.trans hW₂.alike
  have hZU : Z.Warmed39 (s.setVm U.vm).vm := State.Warmed39.trans (t := T.setVm vm₁) hU hW₂
  obtain ⟨vm', X₃, st₃⟩ := X₂.caughtLink a (g := { g with stack := rest }) hg (own := own) (name := cls) (show U.vm.findClass own = some m.cls by rw [hal.findClass]; exact hown) [] x [] htab (fun _ q => nomatch q) hcov h0 (mvT hZU wk) (cT := ce.cls) (cell := ce) hcc hce (by rw [hcv]; rfl) hca
  refine ⟨a, U.vm, U.setVm vm', U.heap, X₃, rfl, by rw [← eT]; exact hext, hS₂, fun target q => hstep₁ _ fun acts => hst acts _ ?_⟩
  rw [X₂.pushThrowing_eq]
  exact st₃ _ q
/-- what a callee with an exception table pays whose walk interns and fills in a stack trace (BackS.of_freeWG's text over codeWith) -/
theorem own_backW {y : MethodName} {bytes : ByteArray} {maxL : Nat} {ret : Option FieldType} {hs : List (Nat × Nat × Nat × Nat)} {rm : Room} {len W : Nat} {as' : Array Value} {Q : Option Value → Heap → List Loc → Prop}
    (hM : MetFree l y (head1 [Cond.codeWith y bytes maxL ret hs] rm) (fun a U => a = as' ∧ Z.Warmed39 U.vm ∧ U.heap = h) (fun _ _ bl s _ => s.vm.MethodsKnown ∧ s.vm.FramesKnown bl) (fun _ U o U' => ∃ v L, o = .returned v ∧ Q v U'.heap L ∧ ReturnedEndW U o U' L rm.cells rm.slots))
    (hZ : Z.Warmed39 s.vm) (wc : (Cond.codeWith y bytes maxL ret hs).before a0 Z = true) (wz : (Cond.initialized y.cls).before a0 Z = true) (hf : rm.frames + 1 ≤ R.frames) (hl : W + (maxL + 11) + rm.locals ≤ R.locals) (hTK : s.vm.MethodsKnown) (hBelow : s.vm.FramesKnown below) :
    BackS l R p e below s args y len W (fun A a => a = as' ∧ A.U.heap = h ∧ A.cells + rm.cells ≤ R.cells ∧ A.slots + rm.slots ≤ R.slots)
      (fun A _ v B => ∃ L, Q v B.U.heap L ∧ B.locs = A.locs ++ L ∧ B.cells = A.cells + rm.cells ∧ B.slots = A.slots + rm.slots) := by
  intro m meth c A g ig mk a X hg hsize hdg hW hn hp
  obtain ⟨U, Ls, c0, s0⟩ := A
  dsimp only [Pt.U, Pt.locs, Pt.cells, Pt.slots] at X hn hp ⊢
  have hU : Z.Warmed39 U.vm := wtrans hZ X.warmed
  obtain ⟨m', methY, cY, hn', hmY, hcY, -, hlY, -⟩ := Cond.codeWith_spec (mv (args := a) hU wc)
  cases hn.symm.trans hn'
  obtain ⟨kY, hkY, -⟩ := className_of_methodNamed hn
  have hinitY : kY.init = .initialized := Cond.initialized_spec (findClass_of_methodNamed hn) hkY (mv (args := a) hU wz)
  have h' : At U g.method c below := by rw [hg]; exact X.here
  have happ : (head1 [Cond.codeWith y bytes maxL ret hs] rm).appliesLoose y e.platform (U.calling g mk a) = true :=
    Spec.appliesLoose_calling (g := g) h' hdg hn hkY hinitY
      (X.room_calling (g := g) (R' := rm) hsize hmY hcY hf (by rw [hlY]; omega) hp.2.2.1 hp.2.2.2) (by show (Cond.and _ .tt).before _ _ = true; rw [Cond.before_and, mv hU wc]; rfl)
  obtain ⟨mid, hmid⟩ := h'.above
  have hfr : (U.setTop g).frames = (.java g :: mid) ++ below := by rw [State.frames_setTop' g h'.top, hmid]; rfl
  obtain ⟨o, s₂, hsteps, -, hend, hq⟩ := Steps.callFree hM p X.admits X.cas X.clock (acts := []) hfr happ ⟨hp.1, hU, hp.2.1⟩ (known_frames X hg hTK hBelow)
  rw [State.frames_setTop' g h'.top] at hend
  have hq' : ∃ v L, o = .returned v ∧ Q v s₂.heap L ∧ ReturnedEndW (U.calling g mk a) o s₂ L rm.cells rm.slots := hq
  obtain ⟨v, L, rfl, hQ, hfe⟩ := hq'
  obtain ⟨-, hW₂, hB₂, e2, q2, q3, q4, q5, q6⟩ := hfe
  have e3 : s₂ = ({ (U.calling g mk a).setFrames s₂.frames with heap := s₂.heap, slotsUsed := s₂.slotsUsed } : State).setVm s₂.vm := by
    have : s₂ = ({ s₂ with vm := (U.calling g mk a).vm } : State).setVm s₂.vm := rfl
    rw [e2] at this
    exact this
  obtain ⟨c₂, i₂, len₂, hc₂, hd₂, hf₂⟩ := hend
  have hW' : U.Warmed39 s₂.vm := hW₂
  have hcc : c₂ = c := by
    have h1 : s₂.code? g.method = U.code? g.method := by
      rw [State.code?_eq, State.code?_eq, hW'.alike.method?]
    exact Option.some.inj (hc₂.symm.trans (h1.trans h'.code))
  subst hcc
  have hlen : len₂ = len := by rw [hdg] at hd₂; cases hd₂; rfl
  subst hlen
  obtain ⟨g₀, hg0⟩ := Option.isSome_iff_exists.mp h'.top
  obtain ⟨r, hr⟩ := State.topJava?_eq_some.mp hg0
  have hs₂ : s₂ = (({ U with heap := s₂.heap, slotsUsed := s₂.slotsUsed } : State).setVm s₂.vm).setTop { g with pc := g.pc + len₂, stack := v.toList ++ g.stack } := by
    have hr' : (({ U with heap := s₂.heap, slotsUsed := s₂.slotsUsed } : State).setVm s₂.vm).frames = .java g₀ :: r := hr
    refine e3.trans ?_
    rw [hf₂, State.calling_eq h'.top, State.setFrames_setFrames, State.setTop_of_frames _ hr', hr]
    rfl
  have hsame : U.sameButNew ({ U with heap := s₂.heap, slotsUsed := s₂.slotsUsed } : State) L rm.cells rm.slots := by
    refine ⟨?_, q2, q3, q4, q5, q6⟩
    obtain ⟨t, ht, -⟩ := State.frames_cons hr
    show ({ U with heap := s₂.heap, slotsUsed := s₂.slotsUsed } : State) = { U.setFrames U.frames with heap := s₂.heap, slotsUsed := s₂.slotsUsed }
    rw [State.setFrames_self ht]
  subst hg
  obtain ⟨X', hS⟩ := X.movedW (T₂ := (({ U with heap := s₂.heap, slotsUsed := s₂.slotsUsed } : State).setVm s₂.vm)) ((X.here.setHeapUsed s₂.heap s₂.slotsUsed).setVm hW'.alike) X.tail rfl rfl hW' hB₂ hsame
  refine ⟨v, ⟨(({ U with heap := s₂.heap, slotsUsed := s₂.slotsUsed } : State).setVm s₂.vm), Ls ++ L, c0 + rm.cells, s0 + rm.slots⟩, X', hS, hsame.2.1, ⟨L, hQ, rfl, rfl, rfl⟩, ?_⟩
  show Steps p.tables e below _ ((({ U with heap := s₂.heap, slotsUsed := s₂.slotsUsed } : State).setVm s₂.vm).setTop { g with pc := g.pc + len₂, stack := v.toList ++ g.stack })
  rw [← hs₂]
  exact hsteps
end
theorem own_isr {Z s : State} {a0 args : Array Value} {C n d : String} (hZ : Z.Warmed39 s.vm) (E : Ext Z.heap s.heap) (hi : (Jvm.Cond.initializedFor C n d).before a0 Z = true) (hr : (Jvm.Cond.isRef (.static C n d)).before a0 Z = true) : (Jvm.Cond.isRef (.static C n d)).before args s = true := by
  obtain ⟨v, ev, hv⟩ := isR_v (Cond.before_iff.mp hr)
  have F : Sta Z s.heap C n d v := (Sta.start ev (Or.inl hi)).ext E
  have q0 : (Term.static C n d).eval args Z none [] s = some v := Sta.fin hZ.alike F
  have q : (Term.static C n d).eval args s none [] s = some v := q0
  rw [Cond.before_iff]
  cases v <;> simp_all [Cond.value, Value.isRef]
/-- the mirror of a class that the start knows, in warmer tables -/
theorem own_mir {Z s : State} {args : Array Value} {C : String} (hZ : Z.Warmed39 s.vm) (hM : MirrorMade Z C) : ∃ (cM : ClassId) (kM : Class) (mir : Addr), s.vm.findClass C = some cM ∧ s.vm.classes[cM]? = some kM ∧ kM.mirror = some mir ∧ (Term.mirror C).eval args s none [] s = some (.ref mir) := by
  obtain ⟨cM, k, mir, m1, m2, m3, -⟩ := hM
  obtain ⟨k', m2', m4⟩ := hZ.alike.2.2 _ _ m2
  have m1' : s.vm.findClass C = some cM := by rw [hZ.alike.findClass]; exact m1
  have m3' : k'.mirror = some mir := by rw [m4]; exact m3
  exact ⟨cM, k', mir, m1', m2', m3', by simp [Term.eval, m1', m2', m3']⟩
theorem own_in {cl : Cell} {j : Int32} {n : Nat} (S : cl.slots.size = n) (h0 : ¬ j < 0) (hj : j.toNatClampNeg < n) : ¬ (j < 0 ∨ cl.slots.size ≤ j.toNatClampNeg) := fun q => q.elim h0 fun r => by rw [S] at r; omega
theorem own_at {cl : Cell} {j : Int32} {i : Nat} {v : Value} (hj : j.toNatClampNeg = i) (h : cl.slots[i]? = some v) : cl.slots[j.toNatClampNeg]? = some v := by rw [hj]; exact h
theorem own_same {cl cl' : Cell} {i : Nat} {j : Int32} {v : Value} (h : cl' = cl.setSlot j.toNatClampNeg v) (hj : j.toNatClampNeg = i) (hi : i < cl.slots.size) : cl'.slots[i]? = some v := by
  subst h; subst hj
  show (cl.slots.setIfInBounds _ v)[_]? = some v
  rw [Array.getElem?_setIfInBounds_self_of_lt hi]
theorem own_other {cl cl' : Cell} {i : Nat} {j : Int32} {u v : Value} (h : cl' = cl.setSlot j.toNatClampNeg v) (hj : j.toNatClampNeg ≠ i) (q : cl.slots[i]? = some u) : cl'.slots[i]? = some u := by
  subst h
  show (cl.slots.setIfInBounds _ v)[_]? = some u
  rw [Array.getElem?_setIfInBounds_ne hj]; exact q
theorem own_ssz {cl cl' : Cell} {j : Int32} {v : Value} {n : Nat} (h : cl' = cl.setSlot j.toNatClampNeg v) (S : cl.slots.size = n) : cl'.slots.size = n := by rw [h, sz_set]; exact S
abbrev own_sg (v : Int64) : Int32 := ((v >>> ((63 : Int32) &&& 0x3f).toInt64) ||| (((-v).toUInt64 >>> ((63 : Int32) &&& 0x3f).toInt64.toUInt64).toInt64)).toInt32
abbrev own_cmp (x z : Int64) : Int32 := if (lcmpW x z) < (0 : Int32) then (-1 : Int32) else (if (lcmpW x z) = (0 : Int32) then (0 : Int32) else (1 : Int32))
theorem own_l1 {x z : Int64} (h : x < z) : lcmpW x z = -1 := by
  have h1 : ¬ x > z := fun q => by rw [gt_iff_lt, Int64.lt_iff_toInt_lt] at q; rw [Int64.lt_iff_toInt_lt] at h; omega
  have h2 : ¬ x = z := fun q => by subst q; rw [Int64.lt_iff_toInt_lt] at h; omega
  rw [lcmpW, if_neg h1, if_neg h2]
theorem own_l2 {x z : Int64} (h : z < x) : lcmpW x z = 1 := if_pos h
theorem own_l3 (x : Int64) : lcmpW x x = 0 := by
  have h1 : ¬ x > x := fun q => by rw [gt_iff_lt, Int64.lt_iff_toInt_lt] at q; omega
  rw [lcmpW, if_neg h1, if_pos rfl]
theorem own_eq {x z : Int64} (h : ¬ x < z) (g : ¬ z < x) : x = z := by
  rw [Int64.lt_iff_toInt_lt] at h g; exact Int64.toInt_inj.mp (by omega)
theorem own_n1 {x z : Int64} (h : ¬ x < z) : ¬ lcmpW x z < (0 : Int32) := by
  by_cases g : z < x
  · rw [own_l2 g]; decide
  · rw [own_eq h g, own_l3]; decide
theorem own_n2 {x z : Int64} (g : ¬ z < x) : ¬ (0 : Int32) < lcmpW x z := by
  by_cases h : x < z
  · rw [own_l1 h]; decide
  · rw [own_eq h g, own_l3]; decide
theorem own_c1 {x z : Int64} (h : x < z) : own_cmp x z = -1 := by rw [own_cmp, own_l1 h]; decide
theorem own_c2 {x z : Int64} (h : z < x) : own_cmp x z = 1 := by rw [own_cmp, own_l2 h]; decide
theorem own_c3 {x z : Int64} (h : ¬ x < z) (g : ¬ z < x) : own_cmp x z = 0 := by rw [own_eq h g, own_cmp, own_l3]; decide
theorem own_ss (b : BitVec 64) : b.sshiftRight 63 = if b.toInt < 0 then BitVec.allOnes 64 else 0#64 := by
  apply BitVec.eq_of_toInt_eq
  rw [BitVec.toInt_sshiftRight, Int.shiftRight_eq_div_pow]
  have h1 := BitVec.toInt_lt (x := b); have h2 := BitVec.le_toInt (x := b)
  split
  · rw [show (BitVec.allOnes 64).toInt = -1 from by decide]; omega
  · rw [show (0#64).toInt = 0 from by decide]; omega
theorem own_us (b : BitVec 64) : b >>> 63 = if b.toInt < 0 then 1#64 else 0#64 := by
  apply BitVec.eq_of_toNat_eq
  rw [BitVec.toNat_ushiftRight, Nat.shiftRight_eq_div_pow]
  have h1 := b.isLt
  have e := BitVec.toInt_eq_toNat_cond b
  split at e <;> split <;> simp_all <;> omega
theorem own_sgb (v : Int64) : (own_sg v).toBitVec = (v.toBitVec.sshiftRight 63 ||| (-v).toBitVec >>> 63).signExtend 32 := by
  show BitVec.signExtend 32 ((v >>> ((63 : Int32) &&& 0x3f).toInt64) ||| (((-v).toUInt64 >>> ((63 : Int32) &&& 0x3f).toInt64.toUInt64).toInt64)).toBitVec = _
  rw [Int64.toBitVec_or, Int64.toBitVec_shiftRight, show ((((63 : Int32) &&& 0x3f).toInt64).toBitVec.smod 64) = 63#64 from by decide]
  show BitVec.signExtend 32 (v.toBitVec.sshiftRight' 63#64 ||| ((-v).toUInt64 >>> ((63 : Int32) &&& 0x3f).toInt64.toUInt64).toBitVec) = _
  rw [UInt64.toBitVec_shiftRight, show ((((63 : Int32) &&& 0x3f).toInt64.toUInt64).toBitVec % 64) = 63#64 from by decide]
  rfl
theorem own_sgn (x : Int64) (sv : Int32) (h : sv = (if (0 : Int32) < lcmpW x (0 : Int64) then (1 : Int32) else (if lcmpW x (0 : Int64) < (0 : Int32) then (-1 : Int32) else (0 : Int32)))) : own_sg x = sv := by
  by_cases h1 : x < 0
  · rw [own_l1 h1] at h
    rw [h]
    apply Int32.toBitVec_inj.mp
    rw [own_sgb, own_ss, if_pos (by rw [Int64.lt_iff_toInt_lt] at h1; exact h1), BitVec.allOnes_or]
    decide
  · by_cases h2 : 0 < x
    · rw [own_l2 h2] at h
      rw [h]
      apply Int32.toBitVec_inj.mp
      rw [Int64.lt_iff_toInt_lt] at h1 h2
      have h0 : (0 : Int64).toInt = 0 := rfl
      rw [h0] at h1 h2
      rw [own_sgb, own_ss, own_us, if_neg (show ¬ x.toBitVec.toInt < 0 from h1), if_pos]
      · decide
      · show (-x).toInt < 0
        rw [Int64.toInt_neg]
        have := Int64.toInt_lt x
        rw [Int.bmod_eq_of_le (by omega) (by omega)]; omega
    · obtain rfl := own_eq h1 h2
      rw [h]; decide
theorem own_sAt {Z s : State} {a0 args : Array Value} (hZ : Z.Warmed39 s.vm) (wS : ∀ a ∈ Bundle.stringAtoms, a.before a0 Z = true) : ∀ a ∈ Bundle.stringAtoms, a.before args s = true := fun d hd => by
  have q := wS d hd
  simp only [Bundle.stringAtoms, List.mem_cons, List.not_mem_nil, or_false] at hd
  rcases hd with rfl | rfl | rfl | rfl | rfl | rfl | rfl
  · exact mv hZ q
  · exact mv hZ q
  · exact mvA hZ q
  · exact mv hZ q
  · exact mv hZ q
  · exact mv hZ q
  · exact mv hZ q

theorem own_words {Z : State} {a0 : Array Value} (hw : ∀ d ∈ tables_1, d.before a0 Z = true) : ∀ a ∈ Bundle.stringAtoms, a.before a0 Z = true := fun a ha => by
  simp only [Bundle.stringAtoms, List.mem_cons, List.not_mem_nil, or_false] at ha
  rcases ha with rfl | rfl | rfl | rfl | rfl | rfl | rfl
  · first | exact hw _ (List.mem_of_getElem? (i := 32) rfl) | exact hw _ (List.mem_of_getElem? (i := 33) rfl) | exact hw _ (List.mem_of_getElem? (i := 34) rfl) | exact hw _ (List.mem_of_getElem? (i := 35) rfl) | exact hw _ (List.mem_of_getElem? (i := 36) rfl) | exact hw _ (List.mem_of_getElem? (i := 37) rfl) | exact hw _ (List.mem_of_getElem? (i := 38) rfl)
  · first | exact hw _ (List.mem_of_getElem? (i := 32) rfl) | exact hw _ (List.mem_of_getElem? (i := 33) rfl) | exact hw _ (List.mem_of_getElem? (i := 34) rfl) | exact hw _ (List.mem_of_getElem? (i := 35) rfl) | exact hw _ (List.mem_of_getElem? (i := 36) rfl) | exact hw _ (List.mem_of_getElem? (i := 37) rfl) | exact hw _ (List.mem_of_getElem? (i := 38) rfl)
  · first | exact hw _ (List.mem_of_getElem? (i := 32) rfl) | exact hw _ (List.mem_of_getElem? (i := 33) rfl) | exact hw _ (List.mem_of_getElem? (i := 34) rfl) | exact hw _ (List.mem_of_getElem? (i := 35) rfl) | exact hw _ (List.mem_of_getElem? (i := 36) rfl) | exact hw _ (List.mem_of_getElem? (i := 37) rfl) | exact hw _ (List.mem_of_getElem? (i := 38) rfl)
  · first | exact hw _ (List.mem_of_getElem? (i := 32) rfl) | exact hw _ (List.mem_of_getElem? (i := 33) rfl) | exact hw _ (List.mem_of_getElem? (i := 34) rfl) | exact hw _ (List.mem_of_getElem? (i := 35) rfl) | exact hw _ (List.mem_of_getElem? (i := 36) rfl) | exact hw _ (List.mem_of_getElem? (i := 37) rfl) | exact hw _ (List.mem_of_getElem? (i := 38) rfl)
  · first | exact hw _ (List.mem_of_getElem? (i := 32) rfl) | exact hw _ (List.mem_of_getElem? (i := 33) rfl) | exact hw _ (List.mem_of_getElem? (i := 34) rfl) | exact hw _ (List.mem_of_getElem? (i := 35) rfl) | exact hw _ (List.mem_of_getElem? (i := 36) rfl) | exact hw _ (List.mem_of_getElem? (i := 37) rfl) | exact hw _ (List.mem_of_getElem? (i := 38) rfl)
  · first | exact hw _ (List.mem_of_getElem? (i := 32) rfl) | exact hw _ (List.mem_of_getElem? (i := 33) rfl) | exact hw _ (List.mem_of_getElem? (i := 34) rfl) | exact hw _ (List.mem_of_getElem? (i := 35) rfl) | exact hw _ (List.mem_of_getElem? (i := 36) rfl) | exact hw _ (List.mem_of_getElem? (i := 37) rfl) | exact hw _ (List.mem_of_getElem? (i := 38) rfl)
  · first | exact hw _ (List.mem_of_getElem? (i := 32) rfl) | exact hw _ (List.mem_of_getElem? (i := 33) rfl) | exact hw _ (List.mem_of_getElem? (i := 34) rfl) | exact hw _ (List.mem_of_getElem? (i := 35) rfl) | exact hw _ (List.mem_of_getElem? (i := 36) rfl) | exact hw _ (List.mem_of_getElem? (i := 37) rfl) | exact hw _ (List.mem_of_getElem? (i := 38) rfl)
section
open Jvm.LibCode.Throwable Jvm.Free.Exc
def own_AE : String := "java/lang/ArithmeticException"
/-- the words on Throwable that this sheet holds (it has no word 'lays Throwable Throwable suppressedExceptions': the subclass's own stands in) -/
def own_tw : List Cond := [.initialized tN, .superclass tN "java/lang/Object", .instanceMethod tFill, .codeSync tFill Fill.code 1 (some (.object tN)), .instanceMethod tFill0, .native tFill0, .instanceMethod tInit0, .code tInit0 Init0.code 1 none, .instanceMethod oInit, .code oInit ⟨#[0xb1]⟩ 1 none,
  .methodLink tN 1 oInit, .methodLink tN 27 tFill, .methodLink tN 202 tFill0, .fieldLink tN 7 tN "cause" thD, .fieldLink tN 17 tN "stackTrace" steD, .fieldLink tN 24 tN "suppressedExceptions" listD, .fieldLink tN 13 tN "UNASSIGNED_STACK" steD, .laysStatic tN "UNASSIGNED_STACK" steD, .fieldLink tN 20 tN "SUPPRESSED_SENTINEL" listD, .laysStatic tN "SUPPRESSED_SENTINEL" listD,
  .lays own_AE tN "cause" thD, .lays own_AE tN "stackTrace" steD, .lays own_AE tN "suppressedExceptions" listD, .lays own_AE tN "detailMessage" msgD, .lays own_AE tN "backtrace" obD, .lays own_AE tN "depth" "I", .fieldLink tN 198 tN "backtrace" obD,
  .declares tFill, .selects own_AE tFill0 tFill0, .selects own_AE tFill tFill, .arrayOver (.object "java/lang/Object"), .soleField tN "backtrace", .soleField tN "depth", .instantiable own_AE 6]
theorem own_tw_ok : own_tw.all xOk = true := rfl
theorem own_thr {args : Array Value} {s : State} {pl : Platform} (howns : pl.frameOwnsMonitors = true) (hfin : pl.finalization = false) (hpl : pl.magicAccessors = ({} : Platform).magicAccessors) (W : ∀ c ∈ own_tw, c.before args s = true) :
    ∃ T : ThrowableC, T.Links pl s ∧ s.vm.findClass tN = some T.cT ∧ s.methodNamed? tFill = some T.fill ∧ s.methodNamed? tFill0 = some T.fill0 ∧ s.fieldFound? tN "stackTrace" steD = some (T.cT, T.kT, T.i17, T.fStack) ∧ T.fStack.name = "stackTrace" ∧ T.fStack.type = .array (.object "java/lang/StackTraceElement") ∧
      s.fieldFound? tN "UNASSIGNED_STACK" steD = some (T.cT, T.kT, T.i13, T.fUnassigned) := by
  have a : ∀ c, c ∈ own_tw → c.holds args s none s [] = true := fun c hc => W c hc
  -- the class
  obtain ⟨⟨c, i0⟩, meth0, hn0, hm0, hnat0, hcode0, hlocks0, hsig0⟩ := Cond.native_spec (a (.native tFill0) (by simp [own_tw]))
  have hc : s.vm.findClass tN = some c := findClass_of_methodNamed hn0
  obtain ⟨k, hk, hname⟩ := Vm.findClass_spec hc
  obtain ⟨_, k1, _, _, hk1, _, _, hord, _, hni⟩ := Cond.superclass_spec hc (a (.superclass tN "java/lang/Object") (by simp [own_tw]))
  obtain rfl : k = k1 := Option.some.inj (hk.symm.trans hk1)
  -- its methods, and Object's constructor
  obtain ⟨iF, methF, hnF, hmF, hatF, hstF, habF, -, -⟩ := Cond.ownMethod (x := tFill) hc hk (a (.instanceMethod tFill) (by simp [own_tw]))
  obtain ⟨methF', cF, hmF', hcF, hbF, hlF, hrF, hlkF, -, hsigF⟩ := Cond.codeSync_spec hnF (a (.codeSync tFill Fill.code 1 (some (.object tN))) (by simp [own_tw]))
  obtain rfl : methF = methF' := Option.some.inj (hmF.symm.trans hmF')
  obtain ⟨i1, meth1, hn1, hm1, hat0, hst0, hab0, hnm0, hds0⟩ := Cond.ownMethod (x := tFill0) hc hk (a (.instanceMethod tFill0) (by simp [own_tw]))
  obtain rfl : i0 = i1 := by have := Option.some.inj (hn0.symm.trans hn1); simpa using this
  obtain rfl : meth0 = meth1 := Option.some.inj (hm0.symm.trans hm1)
  obtain ⟨mO, methO, hnO, hmO, hstO, habO⟩ := Cond.instanceMethod_spec (a (.instanceMethod oInit) (by simp [own_tw]))
  obtain ⟨methO', cO, hmO', hcO, hbO, hlO, -, hlkO, -, hsigO⟩ := Cond.code_spec hnO (a (.code oInit ⟨#[0xb1]⟩ 1 none) (by simp [own_tw]))
  obtain rfl : methO = methO' := Option.some.inj (hmO.symm.trans hmO')
  obtain ⟨kO, hkO, hnameO⟩ := Vm.findClass_spec (findClass_of_methodNamed hnO)
  obtain ⟨hnmO, hdsO⟩ := name_of_methodNamed hnO hmO
  -- the three entries that name methods
  obtain ⟨ci1, n1, cf, hl1, hr1, hcf, hp1⟩ := Cond.linkedMethod hc hk hnO (a (.methodLink tN 1 oInit) (by simp [own_tw])) pl hpl
  obtain ⟨ci27, n27, cf2, hl27, hr27, hcf2, hp27⟩ := Cond.linkedMethod hc hk hnF (a (.methodLink tN 27 tFill) (by simp [own_tw])) pl hpl
  obtain rfl : cf = cf2 := Option.some.inj (hcf.symm.trans hcf2)
  obtain ⟨ci202, n202, cf3, hl202, hr202, hcf3, hp202⟩ := Cond.linkedMethod hc hk hn0 (a (.methodLink tN 202 tFill0) (by simp [own_tw])) pl hpl
  obtain rfl : cf = cf3 := Option.some.inj (hcf.symm.trans hcf3)
  -- the five entries that name fields, by the subclass's words
  obtain ⟨ci7, i7, f7, hk7, hg7, ha7, hs7, hf7, hn7, ht7, hff7⟩ := Cond.ownField (t := .object tN) hc hk (by decide +kernel) (a (.fieldLink tN 7 tN "cause" thD) (by simp [own_tw])) (a (.lays own_AE tN "cause" thD) (by simp [own_tw])) pl hpl
  obtain ⟨ci17, i17, f17, hk17, hg17, ha17, hs17, hf17, hn17, ht17, hff17⟩ := Cond.ownField (t := .array (.object "java/lang/StackTraceElement")) hc hk (by decide +kernel) (a (.fieldLink tN 17 tN "stackTrace" steD) (by simp [own_tw])) (a (.lays own_AE tN "stackTrace" steD) (by simp [own_tw])) pl hpl
  obtain ⟨ci24, i24, f24, hk24, hg24, ha24, hs24, hf24, hn24, ht24, hff24⟩ := Cond.ownField (t := .object "java/util/List") hc hk (by decide +kernel) (a (.fieldLink tN 24 tN "suppressedExceptions" listD) (by simp [own_tw])) (a (.lays own_AE tN "suppressedExceptions" listD) (by simp [own_tw])) pl hpl
  obtain ⟨ci13, i13, f13, aS, cellS, hk13, hg13, ha13, hs13, -, -, hsta, hcellS, hissS, -, -, hff13⟩ := Cond.ownStatic (t := .array (.object "java/lang/StackTraceElement")) hc hk (by decide +kernel) (a (.fieldLink tN 13 tN "UNASSIGNED_STACK" steD) (by simp [own_tw])) (a (.laysStatic tN "UNASSIGNED_STACK" steD) (by simp [own_tw])) pl hpl
  obtain ⟨ci20, i20, f20, _, _, hk20, hg20, ha20, hs20, -, -, -, -, -, -, -, hff20⟩ := Cond.ownStatic (t := .object "java/util/List") hc hk (by decide +kernel) (a (.fieldLink tN 20 tN "SUPPRESSED_SENTINEL" listD) (by simp [own_tw])) (a (.laysStatic tN "SUPPRESSED_SENTINEL" listD) (by simp [own_tw])) pl hpl
  -- the two slots differ, as the subclass lays them
  obtain ⟨cX, kX, _, _, _, _, hcX, hkX, -⟩ := Cond.lays_spec (a (.lays own_AE tN "stackTrace" steD) (by simp [own_tw]))
  obtain ⟨-, d17, hd17, hdn17⟩ := Cond.laysAt hcX hkX hff17 (a (.lays own_AE tN "stackTrace" steD) (by simp [own_tw]))
  obtain ⟨-, d24, hd24, hdn24⟩ := Cond.laysAt hcX hkX hff24 (a (.lays own_AE tN "suppressedExceptions" listD) (by simp [own_tw]))
  have hapart := Cond.laysApart hd17 hd24 hdn17 hdn24 (by rw [hn17, hn24]; decide)
  have pF : methF.sig.parameters = [] := by
    have : (parseMethodDescriptor tFill.desc).map (·.parameters) = some [] := by decide +kernel
    rw [hsigF] at this; simpa using this
  have p0 : meth0.sig.parameters = [.int] := by
    have : (parseMethodDescriptor tFill0.desc).map (·.parameters) = some [.int] := by decide +kernel
    rw [hsig0] at this; simpa using this
  have pO : methO.sig.parameters.length = 0 := by
    have : (parseMethodDescriptor oInit.desc).map (·.parameters) = some [] := by decide +kernel
    rw [hsigO] at this
    have : methO.sig.parameters = [] := by simpa using this
    rw [this]; rfl
  exact ⟨{ cT := c, kT := k, cO := c, aS := aS, fillIdx := iF, fill0Idx := i0, initSIdx := iF, obj := mO, kObj := kO, methFill := methF, methFill0 := meth0, methInitS := methF, methObj := methO, codeFill := cF, codeInitS := cF, codeObj := cO,
           fBack := f7, fDepth := f7, fStack := f17, fCause := f7, fSupp := f24, fMsg := f7, fUnassigned := f13, fSentinel := f20, cfT := cf, ci1 := ci1, n1 := n1, ci27 := ci27, n27 := n27, ci202 := ci202, n202 := n202,
           ci7 := ci7, i7 := i7, ci13 := ci13, i13 := i13, ci17 := ci17, i17 := i17, ci20 := ci20, i20 := i20, ci24 := ci24, i24 := i24 },
    { owns := howns, noFinalization := hfin, cls := hk, name := hname, boot := Vm.findClass_boot hc hk, notInterface := hni, initialized := Cond.initialized_spec hc hk (a (.initialized tN) (by simp [own_tw])), statics := hsta,
      fillAt := hatF, fillCode := hcF, fillBytes := hbF, fillLocals := hlF, fillLocks := hlkF, fillStatic := hstF, fillAbstract := habF, fillReturns := hrF, fillParams := pF,
      fill0At := hat0, fill0Name := hnm0, fill0Desc := hds0, fill0Params := p0, fill0Static := hst0, fill0Native := hnat0, fill0Code := hcode0, fill0Locks := hlocks0, fill0Abstract := hab0,
      stackInstance := hs17, stackNotFinal := hf17, unassignedStatic := hs13, objClass := hkO, objClassName := hnameO, objMethod := hmO, objName := hnmO, objStatic := hstO, objAbstract := habO,
      objFound := by rw [hdsO]; exact lookupSpecial_of_named hnO hmO hstO, objParams := pO, objCode := hcO, objBytes := hbO, objLocks := hlkO, causeInstance := hs7, causeNotFinal := hf7, sentinelStatic := hs20, suppInstance := hs24, suppNotFinal := hf24,
      msgInstance := hs7, msgNotFinal := hf7, stackApartSupp := hapart, file := hcf, mlink1 := hl1, mright1 := hr1, pool1 := hp1, mlink27 := hl27, mright27 := hr27, pool27 := hp27, mlink202 := hl202, mright202 := hr202, pool202 := hp202,
      link7 := hk7, right7 := hg7, at7 := ha7, link13 := hk13, right13 := hg13, at13 := ha13, link17 := hk17, right17 := hg17, at17 := ha17, link20 := hk20, right20 := hg20, at20 := ha20, link24 := hk24, right24 := hg24, at24 := ha24 },
    hc, hnF, hn0, hff17, hn17, ht17, hff13⟩
variable {p : Program} {l : Launch} {e : Env} {R : Room} {s : State} {m : MethodId} {args : Array Value} {below : List Frame} {meth : Method} {c : Code} {T : State} {locs : List Loc} {cells slots : Nat} {Z : State} {a0 : Array Value} {h : Heap}
/-- a field's place by the walk's own tables -/
theorem own_slot (hZ : Z.Warmed39 s.vm) {a : Addr} {O n d : String} {v : Value} {cell : Cell} (F : Fld Z h a O n d v) (hc : h[a]? = some cell) {c' i : Nat} {k' : Class} {f : Field} (hf : s.fieldFound? O n d = some (c', k', i, f)) : cell.slots[f.slot]? = some v := by
  obtain ⟨cl, cf, k, j, f', q1, q2, -, -, -, -, q7⟩ := F
  obtain ⟨k2, r1, -⟩ := State.fieldFound?_setVm (s := Z) hZ.alike q2
  have r2 : s.fieldFound? O n d = some (cf, k2, j, f') := r1
  cases hc.symm.trans q1
  have := Option.some.inj (hf.symm.trans r2)
  simp only [Prod.mk.injEq] at this
  obtain ⟨-, -, -, rfl⟩ := this
  exact q7
set_option maxHeartbeats 4000000 in
/-- 'invokevirtual Throwable.fillInStackTrace()' on a new ArithmeticException -/
theorem own_fill (X : Stand p l e R s m args below meth c T locs cells slots) (hx : p.tables.exec = Jvm.exec) (hl : l.stackTraces = true) (hZ : Z.Warmed39 s.vm) (hT : ThS Z s.heap) (hown : s.vm.findClass tN = some m.cls) (wz : ∀ c ∈ own_tw, c.before a0 Z = true)
    (hTK : s.vm.MethodsKnown) (hBelow : s.vm.FramesKnown below) (eT : T.heap = h) {a us : Addr} (E : Exa Z h a own_AE) (N : Unt h a) (FS : Fld Z h a tN "stackTrace" steD (.ref us)) (FB : Fld Z h a tN "backtrace" obD .null) (FM : Fld Z h a tN "detailMessage" msgD .null) (SU : Sta Z h tN "UNASSIGNED_STACK" steD (.ref us))
    {g : JFrame} (hg : g.method = m) (hsize : g.locals.size = c.maxLocals) {rest : List Value} (hs : g.stack = .ref a :: rest) (hd : decode c.code g.pc = .ok (.invokevirtual 27, 3)) (hf : 3 ≤ R.frames) {Wd : Nat} (hW : 2 * g.monitorRoom + (rest.map fun v => v.category).sum ≤ Wd) (hlo : Wd + 42 ≤ R.locals) (hc : cells + 1 ≤ R.cells) (hsl : slots + 2752 ≤ R.slots) :
    ∃ (T' : State) (L : List Loc), (∀ x ∈ L, x.base = a) ∧ Stand p l e R s m args below meth c T' (locs ++ L) (cells + 1) (slots + 2752) ∧ Fld Z T'.heap a tN "detailMessage" msgD .null ∧ Exa Z T'.heap a own_AE ∧
      ∀ target, Steps p.tables e below (T'.setTop { g with pc := g.pc + 3, stack := .ref a :: rest }) target → Steps p.tables e below (T.setTop g) target := by
  have W : ∀ c ∈ own_tw, c.before args s = true := fun d hd => mvX hT hZ (List.all_eq_true.mp own_tw_ok d hd) (wz d hd)
  have a' : ∀ c, c ∈ own_tw → c.holds args s none s [] = true := fun c hc => W c hc
  have htr : e.platform.stackTraces = true := by rw [X.admits.platform]; exact hl
  have hpl : e.platform.magicAccessors = ({} : Platform).magicAccessors := by rw [X.admits.platform]
  obtain ⟨Th, L, hfT, hnF, hn0, hfS, hnS, htS, hfU⟩ := own_thr (args := args) (s := s) (pl := e.platform) (by rw [X.admits.platform]) (by rw [X.admits.platform]) hpl W
  -- the object's cell and class
  obtain ⟨cell, kZ, q1, q2, q3, q4, q5⟩ := id E
  obtain ⟨cell2, u1, u2, u3⟩ := N
  cases q1.symm.trans u1
  have hfound : s.vm.findClass own_AE = some cell.cls := by rw [hZ.alike.findClass]; exact q2
  obtain ⟨kX, hk, ekx⟩ := hZ.alike.2.2 _ _ q3
  obtain ⟨cI, kI, g1, g2, g3, -⟩ := Cond.instantiable_spec (W (.instantiable own_AE 6) (by simp [own_tw]))
  cases hfound.symm.trans g1
  cases hk.symm.trans g2
  have hsz : cell.slots.size = kX.instanceTypes.size := by
    have := q5 (by have := g3; rw [ekx] at this; exact this)
    rw [ekx]; exact this
  have hcT : T.heap[a]? = some cell := by rw [eT]; exact q1
  -- the fields
  obtain ⟨ci198, i198, fB, hk198, hg198, ha198, hsB, -, hnB, htB, hffB⟩ := Cond.ownField (t := .object "java/lang/Object") hfT L.cls (by decide +kernel) (a' (.fieldLink tN 198 tN "backtrace" obD) (by simp [own_tw])) (a' (.lays own_AE tN "backtrace" obD) (by simp [own_tw])) e.platform hpl
  obtain ⟨_, _, cD, kD, iD, fD, -, -, hffD, hstD, -⟩ := Cond.lays_spec (a' (.lays own_AE tN "depth" "I") (by simp [own_tw]))
  cases Option.some.inj ((Cond.lays_declared (a' (.lays own_AE tN "depth" "I") (by simp [own_tw])) hffD).symm.trans hfT)
  obtain ⟨hkD, hatD⟩ := State.fieldFound?_spec hffD
  cases Option.some.inj (hkD.symm.trans L.cls)
  obtain ⟨hnD, htD⟩ := State.fieldFound?_type hffD (t := .int) (by decide +kernel)
  obtain ⟨_, _, cM, kM, iM, fM, -, -, hffM, -⟩ := Cond.lays_spec (a' (.lays own_AE tN "detailMessage" msgD) (by simp [own_tw]))
  have nmM : fM.name = "detailMessage" := (State.fieldFound?_type hffM (t := .object "java/lang/String") (by decide +kernel)).1
  have hfb := Cond.soleField_find hfT L.cls (a' (.soleField tN "backtrace") (by simp [own_tw])) ha198 hnB hsB
  have hfd := Cond.soleField_find hfT L.cls (a' (.soleField tN "depth") (by simp [own_tw])) hatD hnD hstD
  obtain ⟨comp, cO, kO, -, -, hkO, hkindO, hO⟩ := Cond.arrayOver_spec (W (.arrayOver (.object "java/lang/Object")) (by simp [own_tw]))
  obtain ⟨tyS, dS, hdS, hdnS⟩ := Cond.laysAt hfound hk hfS (a' (.lays own_AE tN "stackTrace" steD) (by simp [own_tw]))
  obtain ⟨tyM, dM, hdM, hdnM⟩ := Cond.laysAt hfound hk hffM (a' (.lays own_AE tN "detailMessage" msgD) (by simp [own_tw]))
  obtain ⟨tyB, dB, hdB, hdnB⟩ := Cond.laysAt hfound hk hffB (a' (.lays own_AE tN "backtrace" obD) (by simp [own_tw]))
  obtain ⟨tyD, dD, hdD, hdnD⟩ := Cond.laysAt hfound hk hffD (a' (.lays own_AE tN "depth" "I") (by simp [own_tw]))
  have mS := Cond.laysApart hdM hdS hdnM hdnS (by rw [nmM, hnS]; decide)
  have mB := Cond.laysApart hdM hdB hdnM hdnB (by rw [nmM, hnB]; decide)
  have mD := Cond.laysApart hdM hdD hdnM hdnD (by rw [nmM, hnD]; decide)
  have tk : ∀ {f : Field} {v : Value}, kX.instanceTypes[f.slot]? = some f.type → fits f.type v = true → Jvm.Takes s cell f v := fun {f v} h1 h2 => by
    obtain ⟨r1, r2⟩ := Takes.of_laid (v := v) hk g3 h1 h2
    exact ⟨by rw [hsz]; simpa using r1, by rw [u2]; exact r2⟩
  have hsel0 : selectMethod e.platform s.vm cell.cls Th.fill0 = .method Th.fill0 := by
    obtain ⟨c2, r2, m2, s1, s2, s3, s4, -⟩ := Cond.selects_spec (a' (.selects own_AE tFill0 tFill0) (by simp [own_tw]))
    cases Option.some.inj (s1.symm.trans hfound)
    cases Option.some.inj (s2.symm.trans (State.methodFound?_of_named hn0 (by decide)))
    cases Option.some.inj (s3.symm.trans hn0)
    rw [Launch.admits_selectMethod X.admits]; exact s4
  -- Throwable's statics
  obtain ⟨cf, i, kk, f, st, cellS, t1, -, -, t4, t5, t6, t7⟩ := SU
  obtain ⟨k2, r1, r2⟩ := State.fieldFound?_setVm (s := Z) hZ.alike t1
  have r3 := Option.some.inj (hfU.symm.trans (show s.fieldFound? tN "UNASSIGNED_STACK" steD = some (cf, k2, i, f) from r1))
  simp only [Prod.mk.injEq] at r3
  obtain ⟨-, r4, -, rfl⟩ := r3
  have hst : Th.aS = st := Option.some.inj (L.statics.symm.trans (by rw [r4, r2]; exact t4))
  subst hst
  have hneS : Th.aS ≠ a := fun q => by rw [q, q1] at t5; cases t5; rw [q4] at t6; cases t6
  have hSE := W (.selects own_AE tFill tFill) (by simp [own_tw])
  obtain ⟨v6, vm6, ⟨T6, L6, c6, n6⟩, -, X6, ⟨hv6, C6, n, hn, hD6, r5, r6, r7, r8, hL6, hc6, hn6⟩, st6⟩ := X.virtualBack hx (own := tN) (C := own_AE) (index := 27) (y := tFill) (z := tFill) hown (W (.methodLink tN 27 tFill) (by simp [own_tw])) (W (.declares tFill) (by simp [own_tw])) (notFace_of_selects hSE) hSE (W (.instanceMethod tFill) (by simp [own_tw])) (by decide)
    (fillPaysAny (l := l) (W := Wd) hx htr Th L hnF (u0 := ⟨.ref us, rfl⟩) (self := a) (cell := cell) (cellS := cellS) (fun _ => by rw [u2]; simp) (by rw [u2]; simp) (by rw [u3]) (by rw [u3]) (own_slot hZ FS q1 hfS) hsel0 hneS (fun q => by rw [q] at t6; cases t6) t7 (tk tyS (by rw [htS]; rfl))
      ⟨{ ci198 := ci198, i198 := i198, fBack := fB }, ⟨hk198, hg198, ha198, hsB⟩, own_slot hZ FB q1 hffB⟩ hTK hBelow hfT hO hkO hkindO hfb hfd
      (fun x => tk tyB (by rw [htB]; rfl)) (fun x => tk tyD (by rw [htD]; rfl)) (by omega) (by omega))
    (b := a) (cB := cell.cls) hfound ⟨cell, hcT, rfl, q4⟩ (g := g) hg hsize (Steps.refl _) (argsL := []) (rest := rest)
    (fun sig q => by rw [show parseMethodDescriptor tFill.desc = some ⟨[], some (.object tN)⟩ from by decide +kernel] at q; rw [← Option.some.inj q]; rfl) hs hW hd
    (fun vmx hWx => ⟨rfl, hc, hsl, hcT, by show T.heap[_]? = _; rw [eT]; exact t5⟩)
  dsimp only [Pt.U, Pt.locs, Pt.cells, Pt.slots] at X6 hD6 hL6 hc6 hn6 st6
  subst hv6 hc6 hn6
  refine ⟨T6, [⟨a, fB.slot⟩, ⟨a, fD.slot⟩, ⟨a, Th.fStack.slot⟩], fun x hx' => ?_, (hL6 ▸ X6).more (Nat.le_refl _) (Nat.add_le_add_left hn _), ?_, ?_, fun target q => st6.trans q⟩
  · simp only [List.mem_cons, List.not_mem_nil, or_false] at hx'
    rcases hx' with rfl | rfl | rfl <;> rfl
  · obtain ⟨cl, cf', k', j, f', w1, w2, w3, w4, w5, w6, w7⟩ := FM
    cases q1.symm.trans w1
    obtain ⟨k3, y1, -⟩ := State.fieldFound?_setVm (s := Z) hZ.alike w2
    have y3 := Option.some.inj (hffM.symm.trans (show s.fieldFound? tN "detailMessage" msgD = some (cf', k3, j, f') from y1))
    simp only [Prod.mk.injEq] at y3
    obtain ⟨-, -, -, rfl⟩ := y3
    exact ⟨C6, cf', k', j, fM, hD6, w2, w3, by rw [r6]; exact w4, by rw [r6]; exact w5, by rw [r5]; exact w6, (r8 _ mB mD mS).trans w7⟩
  · exact ⟨C6, kZ, hD6, by rw [r5]; exact q2, by rw [r5]; exact q3, by rw [r6]; exact q4, fun q => by rw [r7]; exact q5 q⟩
end
theorem own_keep {s t : State} {L : List Loc} {k n : Nat} {a : Addr} (h : s.sameButNew t L k n) (hL : ∀ x ∈ L, x.base = a) : Keep s.heap t.heap [a] := by
  refine ⟨h.2.1, fun x c q r => h.kept_off (fun i hi => r (by rw [← hL _ hi]; simp)) q, fun x c q => ?_⟩
  obtain ⟨c', h1, h2, h3, -⟩ := h.2.2.2.2.2 x c q
  exact ⟨c', h1, by rw [h2], by rw [h2], h3⟩
theorem own_unt {s t : State} {L : List Loc} {k n : Nat} {a : Addr} (h : s.sameButNew t L k n) (N : Unt s.heap a) : Unt t.heap a := by
  obtain ⟨c, q, r1, r2⟩ := N
  obtain ⟨c', h1, h2, -⟩ := h.2.2.2.2.2 a c q
  exact ⟨c', h1, by rw [h2]; exact r1, by rw [h2]; exact r2⟩
theorem own_bs {p : Program} {l : Launch} {e : Env} {R : Room} {s : State} {m : MethodId} {args : Array Value} {below : List Frame} {meth : Method} {c : Code} {T : State} {locs : List Loc} {cells slots : Nat} {a : Addr} {sl : Nat} (X : Stand p l e R s m args below meth c T (locs ++ [⟨a, sl⟩]) cells slots) (B : ∀ x ∈ locs, x.base = a) : ∀ x ∈ locs ++ [⟨a, sl⟩], x.base = a := fun x q => (List.mem_append.mp q).elim (B x) fun r => by cases List.mem_singleton.mp r; rfl
theorem own_ba {locs L : List Loc} {a : Addr} (B : ∀ x ∈ locs, x.base = a) (B' : ∀ x ∈ L, x.base = a) : ∀ x ∈ locs ++ L, x.base = a := fun x q => (List.mem_append.mp q).elim (B x) (B' x)
theorem own_frb {p : Program} {l : Launch} {e : Env} {R : Room} {s : State} {m : MethodId} {args : Array Value} {below : List Frame} {meth : Method} {c : Code} {T : State} {locs : List Loc} {cells slots : Nat} {a k : Nat} (X : Stand p l e R s m args below meth c T locs cells slots) (B : ∀ x ∈ locs, x.base = a) (g : k ≤ a) : Fr k locs := fun x q => by rw [B x q]; exact g
def own_Th (Z : State) : Prop := ∃ us ss : Addr, Sta Z Z.heap "java/lang/Throwable" "UNASSIGNED_STACK" "[Ljava/lang/StackTraceElement;" (.ref us) ∧ Sta Z Z.heap "java/lang/Throwable" "SUPPRESSED_SENTINEL" "Ljava/util/List;" (.ref ss)
theorem own_th {s : State} {args : Array Value} (h : ∀ d ∈ jdkStatics_1, d.before args s = true) : own_Th s := by
  obtain ⟨us, e1⟩ := arr_v (Cond.before_iff.mp (h _ (List.mem_of_getElem? (i := 8) rfl)))
  obtain ⟨ss, e2⟩ := exa_v (Cond.before_iff.mp (h _ (List.mem_of_getElem? (i := 13) rfl)))
  exact ⟨us, ss, Sta.start e1 (Or.inl (h _ (List.mem_of_getElem? (i := 6) rfl))), Sta.start e2 (Or.inl (h _ (List.mem_of_getElem? (i := 11) rfl)))⟩

theorem own_twz {Z : State} {a0 : Array Value} (hw : ∀ d ∈ tables_1, d.before a0 Z = true) : ∀ a ∈ own_tw, a.before a0 Z = true := fun a ha => by
  simp only [own_tw, List.mem_cons, List.not_mem_nil, or_false] at ha
  rcases ha with rfl | rfl | rfl | rfl | rfl | rfl | rfl | rfl | rfl | rfl | rfl | rfl | rfl | rfl | rfl | rfl | rfl | rfl | rfl | rfl | rfl | rfl | rfl | rfl | rfl | rfl | rfl | rfl | rfl | rfl | rfl | rfl | rfl | rfl
  · exact hw _ (List.mem_of_getElem? (i := 59) rfl)
  · exact hw _ (List.mem_of_getElem? (i := 77) rfl)
  · exact hw _ (List.mem_of_getElem? (i := 72) rfl)
  · exact hw _ (List.mem_of_getElem? (i := 78) rfl)
  · exact hw _ (List.mem_of_getElem? (i := 79) rfl)
  · exact hw _ (List.mem_of_getElem? (i := 80) rfl)
  · exact hw _ (List.mem_of_getElem? (i := 81) rfl)
  · exact hw _ (List.mem_of_getElem? (i := 82) rfl)
  · exact hw _ (List.mem_of_getElem? (i := 7) rfl)
  · exact hw _ (List.mem_of_getElem? (i := 8) rfl)
  · exact hw _ (List.mem_of_getElem? (i := 61) rfl)
  · exact hw _ (List.mem_of_getElem? (i := 70) rfl)
  · exact hw _ (List.mem_of_getElem? (i := 83) rfl)
  · exact hw _ (List.mem_of_getElem? (i := 62) rfl)
  · exact hw _ (List.mem_of_getElem? (i := 65) rfl)
  · exact hw _ (List.mem_of_getElem? (i := 68) rfl)
  · exact hw _ (List.mem_of_getElem? (i := 64) rfl)
  · exact hw _ (List.mem_of_getElem? (i := 90) rfl)
  · exact hw _ (List.mem_of_getElem? (i := 67) rfl)
  · exact hw _ (List.mem_of_getElem? (i := 91) rfl)
  · exact hw _ (List.mem_of_getElem? (i := 63) rfl)
  · exact hw _ (List.mem_of_getElem? (i := 66) rfl)
  · exact hw _ (List.mem_of_getElem? (i := 69) rfl)
  · exact hw _ (List.mem_of_getElem? (i := 93) rfl)
  · exact hw _ (List.mem_of_getElem? (i := 94) rfl)
  · exact hw _ (List.mem_of_getElem? (i := 95) rfl)
  · exact hw _ (List.mem_of_getElem? (i := 88) rfl)
  · exact hw _ (List.mem_of_getElem? (i := 71) rfl)
  · exact hw _ (List.mem_of_getElem? (i := 92) rfl)
  · exact hw _ (List.mem_of_getElem? (i := 73) rfl)
  · exact hw _ (List.mem_of_getElem? (i := 74) rfl)
  · exact hw _ (List.mem_of_getElem? (i := 75) rfl)
  · exact hw _ (List.mem_of_getElem? (i := 76) rfl)
  · exact hw _ (List.mem_of_getElem? (i := 29) rfl)
theorem d1_0 : decode prog_84_method_1_code 0 = .ok (.aload_n 0, 1) := by decide +kernel
theorem d1_1 : decode prog_84_method_1_code 1 = .ok (.invokespecial 1, 3) := by decide +kernel
theorem d1_4 : decode prog_84_method_1_code 4 = .ok (.return_, 1) := by decide +kernel
theorem pn_1 : plainName "com/example/tranche/tranche/model/Amount" = true := by first | (simp [plainName, overriddenIn]; done) | decide +kernel
theorem ef_1_x (m : MethodId) (x0 : Addr) : entryFrame m #[(.ref x0)] 1 = mkF m 0 #[.val (.ref x0)] [] := by first | (simp [entryFrame, mkF, argsToLocals, Value.category]; done) | rfl
def Q1 (Z : State) (a1 : Addr) (h0 : Heap) (n0 : Nat) (v : Option Value) (h : Heap) (L : List Loc) : Prop := v = none ∧ Fr n0 L ∧ h = h0
set_option maxRecDepth 65536 in
set_option maxHeartbeats 40000000 in
theorem rm1 (l : Launch) (Z : State) (a0 : Array Value) (hw : ∀ d ∈ tables_1, d.before a0 Z = true) (ws : List Jvm.Cond) (a1 : Addr) (h0 : Heap) (n0 : Nat) (Z0 : n0 ≤ h0.size) :
    MetFree l (⟨"com/example/tranche/tranche/model/Amount", "<init>", "()V"⟩ : MethodName) (head1 (Jvm.Cond.code (⟨"com/example/tranche/tranche/model/Amount", "<init>", "()V"⟩ : MethodName) prog_84_method_1_code 1 none :: ws) ({ frames := 1, cells := 0, slots := 0, locals := 12 } : Room)) (fun a U => a = #[(.ref a1)] ∧ Z.Warmed39 U.vm ∧ U.heap = h0) (fun _ _ _ _ _ => True) (fun _ U o U' => ∃ v L, o = .returned v ∧ Q1 Z a1 h0 n0 v U'.heap L ∧ FrameEnd U o U' L ({ frames := 1, cells := 0, slots := 0, locals := 12 } : Room).cells ({ frames := 1, cells := 0, slots := 0, locals := 12 } : Room).slots) := by
  refine MetFree.of_bodySF (plainFor_of_name pn_1) hisR ?_
  intro p e s m args below meth c s₁ Bd hml0 hP hK
  obtain ⟨rfl, hZ, hh⟩ := hP
  have hx := Bd.exec
  have hby := Bd.bytes
  have hml : c.maxLocals = 1 := hml0
  have hown : s.vm.findClass "com/example/tranche/tranche/model/Amount" = some m.cls := findClass_of_methodNamed Bd.named
  have hnm := (name_of_methodNamed Bd.named Bd.method).1
  have X0 : Stand p l e ({ frames := 1, cells := 0, slots := 0, locals := 12 } : Room) s m #[(.ref a1)] below meth c s₁ [] 0 0 := Stand.of_body Bd
  have e0 : s₁.heap = h0 := by rw [← hh, Bd.state]; rfl
  have N0 := Fr.nil n0
  have pre0 : ∀ t, Steps p.tables e below (s₁.setTop (mkF m 0 #[.val (.ref a1)] [])) t → Steps p.tables e below (s₁.setTop (entryFrame m #[(.ref a1)] 1)) t := fun t k => castTop (ef_1_x m a1) k
  have J1 : ∀ t, Steps p.tables e below (s₁.setTop (mkF m 1 #[.val (.ref a1)] [(.ref a1)])) t → Steps p.tables e below (s₁.setTop (entryFrame m #[(.ref a1)] 1)) t := fun t k => pre0 t (by
      show Steps p.tables e below (s₁.setTop (mkF m 0 #[.val (.ref a1)] [])) _
      refine XS.aloadN X0.here hx rfl (hb hby d1_0) rfl rfl ?_
      exact k)
  obtain ⟨T2, X2, e2, st2⟩ := initO X0 hx hZ hown (hw _ (List.mem_of_getElem? (i := 6) rfl)) (hw _ (List.mem_of_getElem? (i := 7) rfl)) (hw _ (List.mem_of_getElem? (i := 8) rfl)) e0 (g := (mkF m 1 #[.val (.ref a1)] [(.ref a1)])) rfl (by rw [hml]; rfl) rfl (hb hby d1_1) (by decide) (W := 0) (by show 2 * 0 + _ ≤ _; exact Nat.le_of_eq rfl) (by decide)
  have J3 : ∀ t, Steps p.tables e below (T2.setTop (mkF m 4 #[.val (.ref a1)] [])) t → Steps p.tables e below (s₁.setTop (entryFrame m #[(.ref a1)] 1)) t := fun t k => J1 t (st2 t k)
  obtain ⟨fs, hr, hrun, hended, hW, hsame⟩ := X2.leave (v := none) (fun _ => rfl)
  refine ⟨_, _, J3 _ ?_, hrun, hended, _, _, rfl, ?_, ⟨_, rfl⟩, hW, hsame.mono (by decide) (by decide)⟩
  · show Steps p.tables e below (T2.setTop (mkF m 4 #[.val (.ref a1)] [])) _
    exact X2.returnOut hx Bd.returns (hb hby d1_4) hr
  · show Q1 Z a1 h0 n0 _ T2.heap _
    rw [e2]
    exact ⟨rfl, N0, rfl⟩
theorem d3_0 : decode prog_84_method_2_code 0 = .ok (.aload_n 0, 1) := by decide +kernel
theorem d3_1 : decode prog_84_method_2_code 1 = .ok (.lload_n 1, 1) := by decide +kernel
theorem d3_2 : decode prog_84_method_2_code 2 = .ok (.putfield 7, 3) := by decide +kernel
theorem d3_5 : decode prog_84_method_2_code 5 = .ok (.aload_n 0, 1) := by decide +kernel
theorem d3_6 : decode prog_84_method_2_code 6 = .ok (.aconst_null, 1) := by decide +kernel
theorem d3_7 : decode prog_84_method_2_code 7 = .ok (.putfield 13, 3) := by decide +kernel
theorem d3_10 : decode prog_84_method_2_code 10 = .ok (.aload_n 0, 1) := by decide +kernel
theorem d3_11 : decode prog_84_method_2_code 11 = .ok (.areturn, 1) := by decide +kernel
theorem pn_3 : plainName "com/example/tranche/tranche/model/Amount" = true := by first | (simp [plainName, overriddenIn]; done) | decide +kernel
theorem ef_3_xx (m : MethodId) (x0 : Addr) (x1 : Int64) : entryFrame m #[(.ref x0), (.long x1)] 3 = mkF m 0 #[.val (.ref x0), .val (.long x1), .second] [] := by first | (simp [entryFrame, mkF, argsToLocals, Value.category]; done) | rfl
def Q3 (Z : State) (a1 : Addr) (v1 : Int64) (u1 : Value) (u2 : Value) (h0 : Heap) (n0 : Nat) (v : Option Value) (h : Heap) (L : List Loc) : Prop := v = some (.ref a1) ∧ Fr n0 L ∧ Keep h0 h [a1] ∧ (Exa Z h a1 "com/example/tranche/tranche/model/Amount") ∧ (Fld Z h a1 "com/example/tranche/tranche/model/Amount" "cents" "J" (.long v1)) ∧ (Fld Z h a1 "com/example/tranche/tranche/model/Amount" "wide" "Ljava/math/BigDecimal;" .null)
set_option maxRecDepth 65536 in
set_option maxHeartbeats 40000000 in
theorem rm3 (l : Launch) (Z : State) (a0 : Array Value) (hw : ∀ d ∈ tables_1, d.before a0 Z = true) (ws : List Jvm.Cond) (a1 : Addr) (v1 : Int64) (u1 : Value) (u2 : Value) (h0 : Heap) (n0 : Nat) (Z0 : n0 ≤ h0.size) (E_a1 : Exa Z h0 a1 "com/example/tranche/tranche/model/Amount") (g_a1 : n0 ≤ a1) (F_cents_a1 : Fld Z h0 a1 "com/example/tranche/tranche/model/Amount" "cents" "J" u1) (F_wide_a1 : Fld Z h0 a1 "com/example/tranche/tranche/model/Amount" "wide" "Ljava/math/BigDecimal;" u2) :
    MetFree l (⟨"com/example/tranche/tranche/model/Amount", "set", "(J)Lcom/example/tranche/tranche/model/Amount;"⟩ : MethodName) (head1 (Jvm.Cond.code (⟨"com/example/tranche/tranche/model/Amount", "set", "(J)Lcom/example/tranche/tranche/model/Amount;"⟩ : MethodName) prog_84_method_2_code 3 (some (.object "com/example/tranche/tranche/model/Amount")) :: ws) ({ frames := 0, cells := 0, slots := 0, locals := 0 } : Room)) (fun a U => a = #[(.ref a1), (.long v1)] ∧ Z.Warmed39 U.vm ∧ U.heap = h0) (fun _ _ _ _ _ => True) (fun _ U o U' => ∃ v L, o = .returned v ∧ Q3 Z a1 v1 u1 u2 h0 n0 v U'.heap L ∧ FrameEnd U o U' L ({ frames := 0, cells := 0, slots := 0, locals := 0 } : Room).cells ({ frames := 0, cells := 0, slots := 0, locals := 0 } : Room).slots) := by
  refine MetFree.of_bodySF (plainFor_of_name pn_3) hisR ?_
  intro p e s m args below meth c s₁ Bd hml0 hP hK
  obtain ⟨rfl, hZ, hh⟩ := hP
  have hx := Bd.exec
  have hby := Bd.bytes
  have hml : c.maxLocals = 3 := hml0
  have hown : s.vm.findClass "com/example/tranche/tranche/model/Amount" = some m.cls := findClass_of_methodNamed Bd.named
  have hnm := (name_of_methodNamed Bd.named Bd.method).1
  have X0 : Stand p l e ({ frames := 0, cells := 0, slots := 0, locals := 0 } : Room) s m #[(.ref a1), (.long v1)] below meth c s₁ [] 0 0 := Stand.of_body Bd
  have e0 : s₁.heap = h0 := by rw [← hh, Bd.state]; rfl
  have N0 := Fr.nil n0
  have pre0 : ∀ t, Steps p.tables e below (s₁.setTop (mkF m 0 #[.val (.ref a1), .val (.long v1), .second] [])) t → Steps p.tables e below (s₁.setTop (entryFrame m #[(.ref a1), (.long v1)] 3)) t := fun t k => castTop (ef_3_xx m a1 v1) k
  have J1 : ∀ t, Steps p.tables e below (s₁.setTop (mkF m 2 #[.val (.ref a1), .val (.long v1), .second] [(.long v1), (.ref a1)])) t → Steps p.tables e below (s₁.setTop (entryFrame m #[(.ref a1), (.long v1)] 3)) t := fun t k => pre0 t (by
      show Steps p.tables e below (s₁.setTop (mkF m 0 #[.val (.ref a1), .val (.long v1), .second] [])) _
      refine XS.aloadN X0.here hx rfl (hb hby d3_0) rfl rfl ?_
      show Steps p.tables e below (s₁.setTop (mkF m 1 #[.val (.ref a1), .val (.long v1), .second] [(.ref a1)])) _
      refine XS.lloadN X0.here hx rfl (hb hby d3_1) rfl ?_
      exact k)
  obtain ⟨T2, h2, X2, e2, W2, st2⟩ := putF X0 hx hZ hown (host := "") (Or.inl (hw _ (List.mem_of_getElem? (i := 15) rfl))) Via.refl e0 F_cents_a1 E_a1 (Or.inl (hw _ (List.mem_of_getElem? (i := 16) rfl))) (hw _ (List.mem_of_getElem? (i := 1) rfl)) (ty := .long) (by decide) rfl rfl (g := (mkF m 2 #[.val (.ref a1), .val (.long v1), .second] [(.long v1), (.ref a1)])) rfl rfl (hb hby d3_2)
  have J3 : ∀ t, Steps p.tables e below (T2.setTop (mkF m 5 #[.val (.ref a1), .val (.long v1), .second] [])) t → Steps p.tables e below (s₁.setTop (entryFrame m #[(.ref a1), (.long v1)] 3)) t := fun t k => J1 t (st2 t k)
  have Z4 : n0 ≤ h2.size := Nat.le_trans Z0 (Keep.of_wr W2).1
  have KK5 : Keep h0 h2 [a1] := (Keep.refl h0 [a1]).wr W2 (Or.inl (List.mem_of_getElem? (i := 0) rfl))
  have N6 := Fr.snoc X2 N0 g_a1
  have Fw2 := F_cents_a1.same W2
  have J7 : ∀ t, Steps p.tables e below (T2.setTop (mkF m 7 #[.val (.ref a1), .val (.long v1), .second] [.null, (.ref a1)])) t → Steps p.tables e below (s₁.setTop (entryFrame m #[(.ref a1), (.long v1)] 3)) t := fun t k => J3 t (by
      show Steps p.tables e below (T2.setTop (mkF m 5 #[.val (.ref a1), .val (.long v1), .second] [])) _
      refine XS.aloadN X2.here hx rfl (hb hby d3_5) rfl rfl ?_
      show Steps p.tables e below (T2.setTop (mkF m 6 #[.val (.ref a1), .val (.long v1), .second] [(.ref a1)])) _
      refine XS.aconstNull X2.here hx rfl (hb hby d3_6) ?_
      exact k)
  have f8 := F_wide_a1.other W2 (Or.inr (slot_ne (Or.inl (hw _ (List.mem_of_getElem? (i := 18) rfl))) (Or.inl (hw _ (List.mem_of_getElem? (i := 16) rfl))) (by decide) (t := (.object "java/math/BigDecimal")) (t' := .long) (by decide) (by decide)))
  have f9 := E_a1.wr W2
  obtain ⟨T10, h10, X10, e10, W10, st10⟩ := putF X2 hx hZ hown (host := "") (Or.inl (hw _ (List.mem_of_getElem? (i := 17) rfl))) Via.refl e2 f8 f9 (Or.inl (hw _ (List.mem_of_getElem? (i := 18) rfl))) (hw _ (List.mem_of_getElem? (i := 1) rfl)) (ty := (.object "java/math/BigDecimal")) (by decide) rfl rfl (g := (mkF m 7 #[.val (.ref a1), .val (.long v1), .second] [.null, (.ref a1)])) rfl rfl (hb hby d3_7)
  have J11 : ∀ t, Steps p.tables e below (T10.setTop (mkF m 10 #[.val (.ref a1), .val (.long v1), .second] [])) t → Steps p.tables e below (s₁.setTop (entryFrame m #[(.ref a1), (.long v1)] 3)) t := fun t k => J7 t (st10 t k)
  have Z12 : n0 ≤ h10.size := Nat.le_trans Z4 (Keep.of_wr W10).1
  have KK13 : Keep h0 h10 [a1] := KK5.wr W10 (Or.inl (List.mem_of_getElem? (i := 0) rfl))
  have N14 := Fr.snoc X10 N6 g_a1
  have Fw10 := f8.same W10
  have J15 : ∀ t, Steps p.tables e below (T10.setTop (mkF m 11 #[.val (.ref a1), .val (.long v1), .second] [(.ref a1)])) t → Steps p.tables e below (s₁.setTop (entryFrame m #[(.ref a1), (.long v1)] 3)) t := fun t k => J11 t (by
      show Steps p.tables e below (T10.setTop (mkF m 10 #[.val (.ref a1), .val (.long v1), .second] [])) _
      refine XS.aloadN X10.here hx rfl (hb hby d3_10) rfl rfl ?_
      exact k)
  obtain ⟨fs, hr, hrun, hended, hW, hsame⟩ := X10.leave (v := some (.ref a1)) (fun h => by rw [Bd.returns] at h; cases h)
  have f16 := f9.wr W10
  have f17 := Fw2.other W10 (Or.inr (slot_ne (Or.inl (hw _ (List.mem_of_getElem? (i := 16) rfl))) (Or.inl (hw _ (List.mem_of_getElem? (i := 18) rfl))) (by decide) (t := .long) (t' := (.object "java/math/BigDecimal")) (by decide) (by decide)))
  refine ⟨_, _, J15 _ ?_, hrun, hended, _, _, rfl, ?_, ⟨_, rfl⟩, hW, hsame.mono (by decide) (by decide)⟩
  · show Steps p.tables e below (T10.setTop (mkF m 11 #[.val (.ref a1), .val (.long v1), .second] [(.ref a1)])) _
    jvm_step X10.here [X10.here.top, hx, (hb hby d3_11), X10.method', Bd.returns, Value.isRef, FieldType.isReference]
    first | (intro acts; rw [hr _ acts rfl rfl rfl]) | rw [hr _ _ rfl rfl rfl]
    exact Steps.refl _
  · show Q3 Z a1 v1 u1 u2 h0 n0 _ T10.heap _
    rw [e10]
    exact ⟨rfl, N14, KK13, f16, f17, Fw10⟩
theorem d9_0 : decode jdk_78_method_2_code 0 = .ok (.aload_n 0, 1) := by decide +kernel
theorem d9_1 : decode jdk_78_method_2_code 1 = .ok (.invokespecial 1, 3) := by decide +kernel
theorem d9_4 : decode jdk_78_method_2_code 4 = .ok (.aload_n 0, 1) := by decide +kernel
theorem d9_5 : decode jdk_78_method_2_code 5 = .ok (.aload_n 0, 1) := by decide +kernel
theorem d9_6 : decode jdk_78_method_2_code 6 = .ok (.putfield 7, 3) := by decide +kernel
theorem d9_9 : decode jdk_78_method_2_code 9 = .ok (.aload_n 0, 1) := by decide +kernel
theorem d9_10 : decode jdk_78_method_2_code 10 = .ok (.getstatic 13, 3) := by decide +kernel
theorem d9_13 : decode jdk_78_method_2_code 13 = .ok (.putfield 17, 3) := by decide +kernel
theorem d9_16 : decode jdk_78_method_2_code 16 = .ok (.aload_n 0, 1) := by decide +kernel
theorem d9_17 : decode jdk_78_method_2_code 17 = .ok (.getstatic 20, 3) := by decide +kernel
theorem d9_20 : decode jdk_78_method_2_code 20 = .ok (.putfield 24, 3) := by decide +kernel
theorem d9_23 : decode jdk_78_method_2_code 23 = .ok (.aload_n 0, 1) := by decide +kernel
theorem d9_24 : decode jdk_78_method_2_code 24 = .ok (.invokevirtual 27, 3) := by decide +kernel
theorem d9_27 : decode jdk_78_method_2_code 27 = .ok (.pop, 1) := by decide +kernel
theorem d9_28 : decode jdk_78_method_2_code 28 = .ok (.aload_n 0, 1) := by decide +kernel
theorem d9_29 : decode jdk_78_method_2_code 29 = .ok (.aload_n 1, 1) := by decide +kernel
theorem d9_30 : decode jdk_78_method_2_code 30 = .ok (.putfield 31, 3) := by decide +kernel
theorem d9_33 : decode jdk_78_method_2_code 33 = .ok (.return_, 1) := by decide +kernel
theorem pn_9 : plainName "java/lang/Throwable" = true := by first | (simp [plainName, overriddenIn]; done) | decide +kernel
theorem ef_9_xx (m : MethodId) (x0 : Addr) (x1 : Addr) : entryFrame m #[(.ref x0), (.ref x1)] 2 = mkF m 0 #[.val (.ref x0), .val (.ref x1)] [] := by first | (simp [entryFrame, mkF, argsToLocals, Value.category]; done) | rfl
def Q9 (Z : State) (a1 : Addr) (msg : Addr) (us : Addr) (ss : Addr) (u1 : Value) (u2 : Value) (u3 : Value) (h0 : Heap) (n0 : Nat) (v : Option Value) (h : Heap) (L : List Loc) : Prop := v = none ∧ Fr n0 L ∧ Keep h0 h [a1] ∧ (Exa Z h a1 "java/lang/ArithmeticException") ∧ (Unt h a1)
set_option maxRecDepth 65536 in
set_option maxHeartbeats 40000000 in
theorem rm9 (l : Launch) (hl : l.stackTraces = true) (Z : State) (a0 : Array Value) (hw : ∀ d ∈ tables_1, d.before a0 Z = true) (ws : List Jvm.Cond) (a1 : Addr) (msg : Addr) (us : Addr) (ss : Addr) (u1 : Value) (u2 : Value) (u3 : Value) (h0 : Heap) (n0 : Nat) (Z0 : n0 ≤ h0.size) (E_a1 : Exa Z h0 a1 "java/lang/ArithmeticException") (g_a1 : n0 ≤ a1) (N : Unt h0 a1) (F_cause_a1 : Fld Z h0 a1 "java/lang/Throwable" "cause" "Ljava/lang/Throwable;" u1) (F_stackTrace_a1 : Fld Z h0 a1 "java/lang/Throwable" "stackTrace" "[Ljava/lang/StackTraceElement;" u2) (F_suppressedExceptions_a1 : Fld Z h0 a1 "java/lang/Throwable" "suppressedExceptions" "Ljava/util/List;" u3) (F_detailMessage_a1 : Fld Z h0 a1 "java/lang/Throwable" "detailMessage" "Ljava/lang/String;" .null) (F_backtrace_a1 : Fld Z h0 a1 "java/lang/Throwable" "backtrace" "Ljava/lang/Object;" .null) (S_UNASSIGNED_STACK : Sta Z h0 "java/lang/Throwable" "UNASSIGNED_STACK" "[Ljava/lang/StackTraceElement;" (.ref us)) (S_SUPPRESSED_SENTINEL : Sta Z h0 "java/lang/Throwable" "SUPPRESSED_SENTINEL" "Ljava/util/List;" (.ref ss)) (hE : Ext Z.heap h0) :
    MetFree l (⟨"java/lang/Throwable", "<init>", "(Ljava/lang/String;)V"⟩ : MethodName) (head1 (Jvm.Cond.code (⟨"java/lang/Throwable", "<init>", "(Ljava/lang/String;)V"⟩ : MethodName) jdk_78_method_2_code 2 none :: ws) ({ frames := 3, cells := 1, slots := 2752, locals := 42 } : Room)) (fun a U => a = #[(.ref a1), (.ref msg)] ∧ Z.Warmed39 U.vm ∧ U.heap = h0) (fun _ _ bl s _ => s.vm.MethodsKnown ∧ s.vm.FramesKnown bl) (fun _ U o U' => ∃ v L, o = .returned v ∧ Q9 Z a1 msg us ss u1 u2 u3 h0 n0 v U'.heap L ∧ FrameEnd U o U' L ({ frames := 3, cells := 1, slots := 2752, locals := 42 } : Room).cells ({ frames := 3, cells := 1, slots := 2752, locals := 42 } : Room).slots) := by
  refine MetFree.of_bodySF (plainFor_of_name pn_9) hisR ?_
  intro p e s m args below meth c s₁ Bd hml0 hP hK
  obtain ⟨rfl, hZ, hh⟩ := hP
  have hx := Bd.exec
  have hby := Bd.bytes
  have hml : c.maxLocals = 2 := hml0
  have hown : s.vm.findClass "java/lang/Throwable" = some m.cls := findClass_of_methodNamed Bd.named
  have hnm := (name_of_methodNamed Bd.named Bd.method).1
  obtain ⟨hTK, hBelow⟩ := hK
  have hTK0 := hTK
  have hBelow0 := hBelow
  have X0 : Stand p l e ({ frames := 3, cells := 1, slots := 2752, locals := 42 } : Room) s m #[(.ref a1), (.ref msg)] below meth c s₁ [] 0 0 := Stand.of_body Bd
  have e0 : s₁.heap = h0 := by rw [← hh, Bd.state]; rfl
  have N0 := Fr.nil n0
  have pre0 : ∀ t, Steps p.tables e below (s₁.setTop (mkF m 0 #[.val (.ref a1), .val (.ref msg)] [])) t → Steps p.tables e below (s₁.setTop (entryFrame m #[(.ref a1), (.ref msg)] 2)) t := fun t k => castTop (ef_9_xx m a1 msg) k
  have hT : ThS Z s.heap := ThS.ext (by rw [hh]; exact hE) ThS.start
  have B0 : ∀ x ∈ ([] : List Loc), x.base = a1 := fun _ q => nomatch q
  have J1 : ∀ t, Steps p.tables e below (s₁.setTop (mkF m 1 #[.val (.ref a1), .val (.ref msg)] [(.ref a1)])) t → Steps p.tables e below (s₁.setTop (entryFrame m #[(.ref a1), (.ref msg)] 2)) t := fun t k => pre0 t (by
      show Steps p.tables e below (s₁.setTop (mkF m 0 #[.val (.ref a1), .val (.ref msg)] [])) _
      refine XS.aloadN X0.here hx rfl (hb hby d9_0) rfl rfl ?_
      exact k)
  obtain ⟨T2, X2, e2, st2⟩ := initO X0 hx hZ hown (hw _ (List.mem_of_getElem? (i := 61) rfl)) (hw _ (List.mem_of_getElem? (i := 7) rfl)) (hw _ (List.mem_of_getElem? (i := 8) rfl)) e0 (g := (mkF m 1 #[.val (.ref a1), .val (.ref msg)] [(.ref a1)])) rfl (by rw [hml]; rfl) rfl (hb hby d9_1) (by decide) (W := 0) (by show 2 * 0 + _ ≤ _; exact Nat.le_of_eq rfl) (by decide)
  have J3 : ∀ t, Steps p.tables e below (T2.setTop (mkF m 4 #[.val (.ref a1), .val (.ref msg)] [])) t → Steps p.tables e below (s₁.setTop (entryFrame m #[(.ref a1), (.ref msg)] 2)) t := fun t k => J1 t (st2 t k)
  have J4 : ∀ t, Steps p.tables e below (T2.setTop (mkF m 6 #[.val (.ref a1), .val (.ref msg)] [(.ref a1), (.ref a1)])) t → Steps p.tables e below (s₁.setTop (entryFrame m #[(.ref a1), (.ref msg)] 2)) t := fun t k => J3 t (by
      show Steps p.tables e below (T2.setTop (mkF m 4 #[.val (.ref a1), .val (.ref msg)] [])) _
      refine XS.aloadN X2.here hx rfl (hb hby d9_4) rfl rfl ?_
      show Steps p.tables e below (T2.setTop (mkF m 5 #[.val (.ref a1), .val (.ref msg)] [(.ref a1)])) _
      refine XS.aloadN X2.here hx rfl (hb hby d9_5) rfl rfl ?_
      exact k)
  obtain ⟨T5, h5, X5, e5, W5, st5⟩ := putF X2 hx hZ hown (host := "") (Or.inl (hw _ (List.mem_of_getElem? (i := 62) rfl))) Via.refl e2 F_cause_a1 E_a1 (Or.inl (hw _ (List.mem_of_getElem? (i := 63) rfl))) (hw _ (List.mem_of_getElem? (i := 29) rfl)) (ty := (.object "java/lang/Throwable")) (by decide) rfl rfl (g := (mkF m 6 #[.val (.ref a1), .val (.ref msg)] [(.ref a1), (.ref a1)])) rfl rfl (hb hby d9_6)
  have J6 : ∀ t, Steps p.tables e below (T5.setTop (mkF m 9 #[.val (.ref a1), .val (.ref msg)] [])) t → Steps p.tables e below (s₁.setTop (entryFrame m #[(.ref a1), (.ref msg)] 2)) t := fun t k => J4 t (st5 t k)
  have Z7 : n0 ≤ h5.size := Nat.le_trans Z0 (Keep.of_wr W5).1
  have N8 := Fr.snoc X5 N0 g_a1
  have Fw5 := F_cause_a1.same W5
  have Nn5 := Unt.wr W5 N
  have Bb5 := own_bs X5 B0
  have J9 : ∀ t, Steps p.tables e below (T5.setTop (mkF m 10 #[.val (.ref a1), .val (.ref msg)] [(.ref a1)])) t → Steps p.tables e below (s₁.setTop (entryFrame m #[(.ref a1), (.ref msg)] 2)) t := fun t k => J6 t (by
      show Steps p.tables e below (T5.setTop (mkF m 9 #[.val (.ref a1), .val (.ref msg)] [])) _
      refine XS.aloadN X5.here hx rfl (hb hby d9_9) rfl rfl ?_
      exact k)
  have f10 := S_UNASSIGNED_STACK.wr W5
  obtain ⟨T11, X11, e11, st11⟩ := getS2 X5 hx hZ hown (host := "") (Or.inl (hw _ (List.mem_of_getElem? (i := 64) rfl))) Via.refl e5 f10 (g := (mkF m 10 #[.val (.ref a1), .val (.ref msg)] [(.ref a1)])) rfl (hb hby d9_10)
  have J12 : ∀ t, Steps p.tables e below (T11.setTop (mkF m 13 #[.val (.ref a1), .val (.ref msg)] [(.ref us), (.ref a1)])) t → Steps p.tables e below (s₁.setTop (entryFrame m #[(.ref a1), (.ref msg)] 2)) t := fun t k => J9 t (st11 t k)
  have f13 := F_stackTrace_a1.other W5 (Or.inr (slot_ne (Or.inl (hw _ (List.mem_of_getElem? (i := 66) rfl))) (Or.inl (hw _ (List.mem_of_getElem? (i := 63) rfl))) (by decide) (t := (.array (.object "java/lang/StackTraceElement"))) (t' := (.object "java/lang/Throwable")) (by decide) (by decide)))
  have f14 := E_a1.wr W5
  obtain ⟨T15, h15, X15, e15, W15, st15⟩ := putF X11 hx hZ hown (host := "") (Or.inl (hw _ (List.mem_of_getElem? (i := 65) rfl))) Via.refl e11 f13 f14 (Or.inl (hw _ (List.mem_of_getElem? (i := 66) rfl))) (hw _ (List.mem_of_getElem? (i := 29) rfl)) (ty := (.array (.object "java/lang/StackTraceElement"))) (by decide) rfl rfl (g := (mkF m 13 #[.val (.ref a1), .val (.ref msg)] [(.ref us), (.ref a1)])) rfl rfl (hb hby d9_13)
  have J16 : ∀ t, Steps p.tables e below (T15.setTop (mkF m 16 #[.val (.ref a1), .val (.ref msg)] [])) t → Steps p.tables e below (s₁.setTop (entryFrame m #[(.ref a1), (.ref msg)] 2)) t := fun t k => J12 t (st15 t k)
  have Z17 : n0 ≤ h15.size := Nat.le_trans Z7 (Keep.of_wr W15).1
  have N18 := Fr.snoc X15 N8 g_a1
  have Fw15 := f13.same W15
  have Nn15 := Unt.wr W15 Nn5
  have Bb15 := own_bs X15 Bb5
  have J19 : ∀ t, Steps p.tables e below (T15.setTop (mkF m 17 #[.val (.ref a1), .val (.ref msg)] [(.ref a1)])) t → Steps p.tables e below (s₁.setTop (entryFrame m #[(.ref a1), (.ref msg)] 2)) t := fun t k => J16 t (by
      show Steps p.tables e below (T15.setTop (mkF m 16 #[.val (.ref a1), .val (.ref msg)] [])) _
      refine XS.aloadN X15.here hx rfl (hb hby d9_16) rfl rfl ?_
      exact k)
  have f20 := S_SUPPRESSED_SENTINEL.wr W5
  have f21 := f20.wr W15
  obtain ⟨T22, X22, e22, st22⟩ := getS2 X15 hx hZ hown (host := "") (Or.inl (hw _ (List.mem_of_getElem? (i := 67) rfl))) Via.refl e15 f21 (g := (mkF m 17 #[.val (.ref a1), .val (.ref msg)] [(.ref a1)])) rfl (hb hby d9_17)
  have J23 : ∀ t, Steps p.tables e below (T22.setTop (mkF m 20 #[.val (.ref a1), .val (.ref msg)] [(.ref ss), (.ref a1)])) t → Steps p.tables e below (s₁.setTop (entryFrame m #[(.ref a1), (.ref msg)] 2)) t := fun t k => J19 t (st22 t k)
  have f24 := F_suppressedExceptions_a1.other W5 (Or.inr (slot_ne (Or.inl (hw _ (List.mem_of_getElem? (i := 69) rfl))) (Or.inl (hw _ (List.mem_of_getElem? (i := 63) rfl))) (by decide) (t := (.object "java/util/List")) (t' := (.object "java/lang/Throwable")) (by decide) (by decide)))
  have f25 := f24.other W15 (Or.inr (slot_ne (Or.inl (hw _ (List.mem_of_getElem? (i := 69) rfl))) (Or.inl (hw _ (List.mem_of_getElem? (i := 66) rfl))) (by decide) (t := (.object "java/util/List")) (t' := (.array (.object "java/lang/StackTraceElement"))) (by decide) (by decide)))
  have f26 := f14.wr W15
  obtain ⟨T27, h27, X27, e27, W27, st27⟩ := putF X22 hx hZ hown (host := "") (Or.inl (hw _ (List.mem_of_getElem? (i := 68) rfl))) Via.refl e22 f25 f26 (Or.inl (hw _ (List.mem_of_getElem? (i := 69) rfl))) (hw _ (List.mem_of_getElem? (i := 29) rfl)) (ty := (.object "java/util/List")) (by decide) rfl rfl (g := (mkF m 20 #[.val (.ref a1), .val (.ref msg)] [(.ref ss), (.ref a1)])) rfl rfl (hb hby d9_20)
  have J28 : ∀ t, Steps p.tables e below (T27.setTop (mkF m 23 #[.val (.ref a1), .val (.ref msg)] [])) t → Steps p.tables e below (s₁.setTop (entryFrame m #[(.ref a1), (.ref msg)] 2)) t := fun t k => J23 t (st27 t k)
  have Z29 : n0 ≤ h27.size := Nat.le_trans Z17 (Keep.of_wr W27).1
  have N30 := Fr.snoc X27 N18 g_a1
  have Fw27 := f25.same W27
  have Nn27 := Unt.wr W27 Nn15
  have Bb27 := own_bs X27 Bb15
  have J31 : ∀ t, Steps p.tables e below (T27.setTop (mkF m 24 #[.val (.ref a1), .val (.ref msg)] [(.ref a1)])) t → Steps p.tables e below (s₁.setTop (entryFrame m #[(.ref a1), (.ref msg)] 2)) t := fun t k => J28 t (by
      show Steps p.tables e below (T27.setTop (mkF m 23 #[.val (.ref a1), .val (.ref msg)] [])) _
      refine XS.aloadN X27.here hx rfl (hb hby d9_23) rfl rfl ?_
      exact k)
  have f33 := f26.wr W27
  have f34 := Fw15.other W27 (Or.inr (slot_ne (Or.inl (hw _ (List.mem_of_getElem? (i := 66) rfl))) (Or.inl (hw _ (List.mem_of_getElem? (i := 69) rfl))) (by decide) (t := (.array (.object "java/lang/StackTraceElement"))) (t' := (.object "java/util/List")) (by decide) (by decide)))
  have f35 := F_backtrace_a1.other W5 (Or.inr (slot_ne (Or.inl (hw _ (List.mem_of_getElem? (i := 94) rfl))) (Or.inl (hw _ (List.mem_of_getElem? (i := 63) rfl))) (by decide) (t := (.object "java/lang/Object")) (t' := (.object "java/lang/Throwable")) (by decide) (by decide)))
  have f36 := f35.other W15 (Or.inr (slot_ne (Or.inl (hw _ (List.mem_of_getElem? (i := 94) rfl))) (Or.inl (hw _ (List.mem_of_getElem? (i := 66) rfl))) (by decide) (t := (.object "java/lang/Object")) (t' := (.array (.object "java/lang/StackTraceElement"))) (by decide) (by decide)))
  have f37 := f36.other W27 (Or.inr (slot_ne (Or.inl (hw _ (List.mem_of_getElem? (i := 94) rfl))) (Or.inl (hw _ (List.mem_of_getElem? (i := 69) rfl))) (by decide) (t := (.object "java/lang/Object")) (t' := (.object "java/util/List")) (by decide) (by decide)))
  have f38 := F_detailMessage_a1.other W5 (Or.inr (slot_ne (Or.inl (hw _ (List.mem_of_getElem? (i := 93) rfl))) (Or.inl (hw _ (List.mem_of_getElem? (i := 63) rfl))) (by decide) (t := (.object "java/lang/String")) (t' := (.object "java/lang/Throwable")) (by decide) (by decide)))
  have f39 := f38.other W15 (Or.inr (slot_ne (Or.inl (hw _ (List.mem_of_getElem? (i := 93) rfl))) (Or.inl (hw _ (List.mem_of_getElem? (i := 66) rfl))) (by decide) (t := (.object "java/lang/String")) (t' := (.array (.object "java/lang/StackTraceElement"))) (by decide) (by decide)))
  have f40 := f39.other W27 (Or.inr (slot_ne (Or.inl (hw _ (List.mem_of_getElem? (i := 93) rfl))) (Or.inl (hw _ (List.mem_of_getElem? (i := 69) rfl))) (by decide) (t := (.object "java/lang/String")) (t' := (.object "java/util/List")) (by decide) (by decide)))
  have f41 := f10.wr W15
  have f42 := f41.wr W27
  obtain ⟨T32, L32, hL32, X32, FM32, A32, st32⟩ := own_fill X27 hx hl hZ hT hown (own_twz hw) hTK hBelow e27 f33 Nn27 f34 f37 f40 f42 (g := (mkF m 24 #[.val (.ref a1), .val (.ref msg)] [(.ref a1)])) rfl (by rw [hml]; rfl) (rest := []) rfl (hb hby d9_24) (by decide) (Wd := 0) (by show 2 * 0 + _ ≤ _; exact Nat.le_of_eq rfl) (by decide) (by decide) (by decide)
  have Bb32 := own_ba Bb27 hL32
  have Nf32 := own_frb X32 Bb32 g_a1
  have Zz32 : n0 ≤ T32.heap.size := Nat.le_trans Z0 (by rw [← hh]; exact X32.same.2.1)
  have J43 : ∀ t, Steps p.tables e below (T32.setTop (mkF m 27 #[.val (.ref a1), .val (.ref msg)] [(.ref a1)])) t → Steps p.tables e below (s₁.setTop (entryFrame m #[(.ref a1), (.ref msg)] 2)) t := fun t k => J31 t (st32 t k)
  have J44 : ∀ t, Steps p.tables e below (T32.setTop (mkF m 30 #[.val (.ref a1), .val (.ref msg)] [(.ref msg), (.ref a1)])) t → Steps p.tables e below (s₁.setTop (entryFrame m #[(.ref a1), (.ref msg)] 2)) t := fun t k => J43 t (by
      show Steps p.tables e below (T32.setTop (mkF m 27 #[.val (.ref a1), .val (.ref msg)] [(.ref a1)])) _
      refine XS.pop X32.here hx rfl (hb hby d9_27) rfl rfl ?_
      show Steps p.tables e below (T32.setTop (mkF m 28 #[.val (.ref a1), .val (.ref msg)] [])) _
      refine XS.aloadN X32.here hx rfl (hb hby d9_28) rfl rfl ?_
      show Steps p.tables e below (T32.setTop (mkF m 29 #[.val (.ref a1), .val (.ref msg)] [(.ref a1)])) _
      refine XS.aloadN X32.here hx rfl (hb hby d9_29) rfl rfl ?_
      exact k)
  obtain ⟨T45, h45, X45, e45, W45, st45⟩ := putF X32 hx hZ hown (host := "") (Or.inl (hw _ (List.mem_of_getElem? (i := 96) rfl))) Via.refl rfl FM32 A32 (Or.inl (hw _ (List.mem_of_getElem? (i := 93) rfl))) (hw _ (List.mem_of_getElem? (i := 29) rfl)) (ty := (.object "java/lang/String")) (by decide) rfl rfl (g := (mkF m 30 #[.val (.ref a1), .val (.ref msg)] [(.ref msg), (.ref a1)])) rfl rfl (hb hby d9_30)
  have J46 : ∀ t, Steps p.tables e below (T45.setTop (mkF m 33 #[.val (.ref a1), .val (.ref msg)] [])) t → Steps p.tables e below (s₁.setTop (entryFrame m #[(.ref a1), (.ref msg)] 2)) t := fun t k => J44 t (st45 t k)
  have Z47 : n0 ≤ h45.size := Nat.le_trans Zz32 (Keep.of_wr W45).1
  have N48 := Fr.snoc X45 Nf32 g_a1
  have Fw45 := FM32.same W45
  have Bb45 := own_bs X45 Bb32
  obtain ⟨fs, hr, hrun, hended, hW, hsame⟩ := X45.leave (v := none) (fun _ => rfl)
  have f49 := A32.wr W45
  refine ⟨_, _, J46 _ ?_, hrun, hended, _, _, rfl, ?_, ⟨_, rfl⟩, hW, hsame.mono (by decide) (by decide)⟩
  · show Steps p.tables e below (T45.setTop (mkF m 33 #[.val (.ref a1), .val (.ref msg)] [])) _
    exact X45.returnOut hx Bd.returns (hb hby d9_33) hr
  · show Q9 Z a1 msg us ss u1 u2 u3 h0 n0 _ T45.heap _
    rw [e45]
    exact ⟨rfl, N48, (by have q := own_keep hsame Bb45; rw [hh] at q; rw [← e45]; exact q), f49, (by have q := own_unt hsame (by rw [hh]; exact N); rw [← e45]; exact q)⟩
theorem d8_0 : decode jdk_59_method_2_code 0 = .ok (.aload_n 0, 1) := by decide +kernel
theorem d8_1 : decode jdk_59_method_2_code 1 = .ok (.aload_n 1, 1) := by decide +kernel
theorem d8_2 : decode jdk_59_method_2_code 2 = .ok (.invokespecial 7, 3) := by decide +kernel
theorem pd_0 : parseMethodDescriptor "(Ljava/lang/String;)V" = some ⟨[(.object "java/lang/String")], none⟩ := by decide +kernel
theorem d8_5 : decode jdk_59_method_2_code 5 = .ok (.return_, 1) := by decide +kernel
theorem pn_8 : plainName "java/lang/Exception" = true := by first | (simp [plainName, overriddenIn]; done) | decide +kernel
theorem ef_8_xx (m : MethodId) (x0 : Addr) (x1 : Addr) : entryFrame m #[(.ref x0), (.ref x1)] 2 = mkF m 0 #[.val (.ref x0), .val (.ref x1)] [] := by first | (simp [entryFrame, mkF, argsToLocals, Value.category]; done) | rfl
def Q8 (Z : State) (a1 : Addr) (msg : Addr) (us : Addr) (ss : Addr) (u1 : Value) (u2 : Value) (u3 : Value) (h0 : Heap) (n0 : Nat) (v : Option Value) (h : Heap) (L : List Loc) : Prop := v = none ∧ Fr n0 L ∧ Keep h0 h [a1] ∧ (Exa Z h a1 "java/lang/ArithmeticException") ∧ (Unt h a1)
set_option maxRecDepth 65536 in
set_option maxHeartbeats 40000000 in
theorem rm8 (l : Launch) (hl : l.stackTraces = true) (Z : State) (a0 : Array Value) (hw : ∀ d ∈ tables_1, d.before a0 Z = true) (ws : List Jvm.Cond) (a1 : Addr) (msg : Addr) (us : Addr) (ss : Addr) (u1 : Value) (u2 : Value) (u3 : Value) (h0 : Heap) (n0 : Nat) (Z0 : n0 ≤ h0.size) (E_a1 : Exa Z h0 a1 "java/lang/ArithmeticException") (g_a1 : n0 ≤ a1) (N : Unt h0 a1) (F_cause_a1 : Fld Z h0 a1 "java/lang/Throwable" "cause" "Ljava/lang/Throwable;" u1) (F_stackTrace_a1 : Fld Z h0 a1 "java/lang/Throwable" "stackTrace" "[Ljava/lang/StackTraceElement;" u2) (F_suppressedExceptions_a1 : Fld Z h0 a1 "java/lang/Throwable" "suppressedExceptions" "Ljava/util/List;" u3) (F_detailMessage_a1 : Fld Z h0 a1 "java/lang/Throwable" "detailMessage" "Ljava/lang/String;" .null) (F_backtrace_a1 : Fld Z h0 a1 "java/lang/Throwable" "backtrace" "Ljava/lang/Object;" .null) (S_UNASSIGNED_STACK : Sta Z h0 "java/lang/Throwable" "UNASSIGNED_STACK" "[Ljava/lang/StackTraceElement;" (.ref us)) (S_SUPPRESSED_SENTINEL : Sta Z h0 "java/lang/Throwable" "SUPPRESSED_SENTINEL" "Ljava/util/List;" (.ref ss)) (hE : Ext Z.heap h0) :
    MetFree l (⟨"java/lang/Exception", "<init>", "(Ljava/lang/String;)V"⟩ : MethodName) (head1 (Jvm.Cond.code (⟨"java/lang/Exception", "<init>", "(Ljava/lang/String;)V"⟩ : MethodName) jdk_59_method_2_code 2 none :: ws) ({ frames := 4, cells := 1, slots := 2752, locals := 55 } : Room)) (fun a U => a = #[(.ref a1), (.ref msg)] ∧ Z.Warmed39 U.vm ∧ U.heap = h0) (fun _ _ bl s _ => s.vm.MethodsKnown ∧ s.vm.FramesKnown bl) (fun _ U o U' => ∃ v L, o = .returned v ∧ Q8 Z a1 msg us ss u1 u2 u3 h0 n0 v U'.heap L ∧ FrameEnd U o U' L ({ frames := 4, cells := 1, slots := 2752, locals := 55 } : Room).cells ({ frames := 4, cells := 1, slots := 2752, locals := 55 } : Room).slots) := by
  refine MetFree.of_bodySF (plainFor_of_name pn_8) hisR ?_
  intro p e s m args below meth c s₁ Bd hml0 hP hK
  obtain ⟨rfl, hZ, hh⟩ := hP
  have hx := Bd.exec
  have hby := Bd.bytes
  have hml : c.maxLocals = 2 := hml0
  have hown : s.vm.findClass "java/lang/Exception" = some m.cls := findClass_of_methodNamed Bd.named
  have hnm := (name_of_methodNamed Bd.named Bd.method).1
  obtain ⟨hTK, hBelow⟩ := hK
  have hTK0 := hTK
  have hBelow0 := hBelow
  have X0 : Stand p l e ({ frames := 4, cells := 1, slots := 2752, locals := 55 } : Room) s m #[(.ref a1), (.ref msg)] below meth c s₁ [] 0 0 := Stand.of_body Bd
  have e0 : s₁.heap = h0 := by rw [← hh, Bd.state]; rfl
  have N0 := Fr.nil n0
  have pre0 : ∀ t, Steps p.tables e below (s₁.setTop (mkF m 0 #[.val (.ref a1), .val (.ref msg)] [])) t → Steps p.tables e below (s₁.setTop (entryFrame m #[(.ref a1), (.ref msg)] 2)) t := fun t k => castTop (ef_8_xx m a1 msg) k
  have J1 : ∀ t, Steps p.tables e below (s₁.setTop (mkF m 2 #[.val (.ref a1), .val (.ref msg)] [(.ref msg), (.ref a1)])) t → Steps p.tables e below (s₁.setTop (entryFrame m #[(.ref a1), (.ref msg)] 2)) t := fun t k => pre0 t (by
      show Steps p.tables e below (s₁.setTop (mkF m 0 #[.val (.ref a1), .val (.ref msg)] [])) _
      refine XS.aloadN X0.here hx rfl (hb hby d8_0) rfl rfl ?_
      show Steps p.tables e below (s₁.setTop (mkF m 1 #[.val (.ref a1), .val (.ref msg)] [(.ref a1)])) _
      refine XS.aloadN X0.here hx rfl (hb hby d8_1) rfl rfl ?_
      exact k)
  obtain ⟨_, _, ⟨T2, L2, k2, n2⟩, -, X2, ⟨Lc2, hQ2, l2, y2, z2⟩, st2⟩ := X0.specialBack hx (y := (⟨"java/lang/Throwable", "<init>", "(Ljava/lang/String;)V"⟩ : MethodName)) rfl hown (mvT hZ (hw _ (List.mem_of_getElem? (i := 55) rfl))) (mvT hZ (hw _ (List.mem_of_getElem? (i := 56) rfl))) (mvT hZ (hw _ (List.mem_of_getElem? (i := 60) rfl))) (by decide) (backOfKL (W := 0) (rm9 l hl Z a0 hw [] a1 msg us ss u1 u2 u3 h0 n0 Z0 E_a1 g_a1 (by assumption) F_cause_a1 F_stackTrace_a1 F_suppressedExceptions_a1 F_detailMessage_a1 F_backtrace_a1 S_UNASSIGNED_STACK S_SUPPRESSED_SENTINEL (by assumption)) hZ (hw _ (List.mem_of_getElem? (i := 60) rfl)) (hw _ (List.mem_of_getElem? (i := 59) rfl)) (by decide) (by decide) hTK hBelow) (g := (mkF m 2 #[.val (.ref a1), .val (.ref msg)] [(.ref msg), (.ref a1)])) rfl (by rw [hml]; rfl) (Steps.refl _) (a := a1) (argsL := [(.ref msg)]) (rest := []) (lenOf pd_0 rfl) rfl (by show 2 * 0 + _ ≤ _; exact Nat.le_of_eq rfl) (hb hby d8_2) (fun _ _ => ⟨rfl, e0, (by decide : 0 + 1 ≤ _), (by decide : 0 + 2752 ≤ _)⟩)
  dsimp only [Pt.U, Pt.locs, Pt.cells, Pt.slots] at X2 l2 y2 z2 st2 hQ2
  subst y2 z2
  obtain ⟨rfl, Nq2, K2, p2_1, p2_2⟩ := hQ2
  have N3 : Fr n0 L2 := by rw [l2]; exact Fr.app N0 Nq2
  have J4 : ∀ t, Steps p.tables e below (T2.setTop (mkF m 5 #[.val (.ref a1), .val (.ref msg)] [])) t → Steps p.tables e below (s₁.setTop (entryFrame m #[(.ref a1), (.ref msg)] 2)) t := fun t k => J1 t (st2.trans k)
  have Z5 : n0 ≤ T2.heap.size := Nat.le_trans Z0 K2.1
  have KK6 : Keep h0 T2.heap [a1] := (Keep.refl h0 [a1]).trans K2 (allS (Or.inl (List.mem_of_getElem? (i := 0) rfl)) all0)
  obtain ⟨fs, hr, hrun, hended, hW, hsame⟩ := X2.leave (v := none) (fun _ => rfl)
  refine ⟨_, _, J4 _ ?_, hrun, hended, _, _, rfl, ?_, ⟨_, rfl⟩, hW, hsame.mono (by decide) (by decide)⟩
  · show Steps p.tables e below (T2.setTop (mkF m 5 #[.val (.ref a1), .val (.ref msg)] [])) _
    exact X2.returnOut hx Bd.returns (hb hby d8_5) hr
  · show Q8 Z a1 msg us ss u1 u2 u3 h0 n0 _ T2.heap _
    exact ⟨rfl, N3, KK6, p2_1, p2_2⟩
theorem d7_0 : decode jdk_58_method_2_code 0 = .ok (.aload_n 0, 1) := by decide +kernel
theorem d7_1 : decode jdk_58_method_2_code 1 = .ok (.aload_n 1, 1) := by decide +kernel
theorem d7_2 : decode jdk_58_method_2_code 2 = .ok (.invokespecial 7, 3) := by decide +kernel
theorem d7_5 : decode jdk_58_method_2_code 5 = .ok (.return_, 1) := by decide +kernel
theorem pn_7 : plainName "java/lang/RuntimeException" = true := by first | (simp [plainName, overriddenIn]; done) | decide +kernel
theorem ef_7_xx (m : MethodId) (x0 : Addr) (x1 : Addr) : entryFrame m #[(.ref x0), (.ref x1)] 2 = mkF m 0 #[.val (.ref x0), .val (.ref x1)] [] := by first | (simp [entryFrame, mkF, argsToLocals, Value.category]; done) | rfl
def Q7 (Z : State) (a1 : Addr) (msg : Addr) (us : Addr) (ss : Addr) (u1 : Value) (u2 : Value) (u3 : Value) (h0 : Heap) (n0 : Nat) (v : Option Value) (h : Heap) (L : List Loc) : Prop := v = none ∧ Fr n0 L ∧ Keep h0 h [a1] ∧ (Exa Z h a1 "java/lang/ArithmeticException") ∧ (Unt h a1)
set_option maxRecDepth 65536 in
set_option maxHeartbeats 40000000 in
theorem rm7 (l : Launch) (hl : l.stackTraces = true) (Z : State) (a0 : Array Value) (hw : ∀ d ∈ tables_1, d.before a0 Z = true) (ws : List Jvm.Cond) (a1 : Addr) (msg : Addr) (us : Addr) (ss : Addr) (u1 : Value) (u2 : Value) (u3 : Value) (h0 : Heap) (n0 : Nat) (Z0 : n0 ≤ h0.size) (E_a1 : Exa Z h0 a1 "java/lang/ArithmeticException") (g_a1 : n0 ≤ a1) (N : Unt h0 a1) (F_cause_a1 : Fld Z h0 a1 "java/lang/Throwable" "cause" "Ljava/lang/Throwable;" u1) (F_stackTrace_a1 : Fld Z h0 a1 "java/lang/Throwable" "stackTrace" "[Ljava/lang/StackTraceElement;" u2) (F_suppressedExceptions_a1 : Fld Z h0 a1 "java/lang/Throwable" "suppressedExceptions" "Ljava/util/List;" u3) (F_detailMessage_a1 : Fld Z h0 a1 "java/lang/Throwable" "detailMessage" "Ljava/lang/String;" .null) (F_backtrace_a1 : Fld Z h0 a1 "java/lang/Throwable" "backtrace" "Ljava/lang/Object;" .null) (S_UNASSIGNED_STACK : Sta Z h0 "java/lang/Throwable" "UNASSIGNED_STACK" "[Ljava/lang/StackTraceElement;" (.ref us)) (S_SUPPRESSED_SENTINEL : Sta Z h0 "java/lang/Throwable" "SUPPRESSED_SENTINEL" "Ljava/util/List;" (.ref ss)) (hE : Ext Z.heap h0) :
    MetFree l (⟨"java/lang/RuntimeException", "<init>", "(Ljava/lang/String;)V"⟩ : MethodName) (head1 (Jvm.Cond.code (⟨"java/lang/RuntimeException", "<init>", "(Ljava/lang/String;)V"⟩ : MethodName) jdk_58_method_2_code 2 none :: ws) ({ frames := 5, cells := 1, slots := 2752, locals := 68 } : Room)) (fun a U => a = #[(.ref a1), (.ref msg)] ∧ Z.Warmed39 U.vm ∧ U.heap = h0) (fun _ _ bl s _ => s.vm.MethodsKnown ∧ s.vm.FramesKnown bl) (fun _ U o U' => ∃ v L, o = .returned v ∧ Q7 Z a1 msg us ss u1 u2 u3 h0 n0 v U'.heap L ∧ FrameEnd U o U' L ({ frames := 5, cells := 1, slots := 2752, locals := 68 } : Room).cells ({ frames := 5, cells := 1, slots := 2752, locals := 68 } : Room).slots) := by
  refine MetFree.of_bodySF (plainFor_of_name pn_7) hisR ?_
  intro p e s m args below meth c s₁ Bd hml0 hP hK
  obtain ⟨rfl, hZ, hh⟩ := hP
  have hx := Bd.exec
  have hby := Bd.bytes
  have hml : c.maxLocals = 2 := hml0
  have hown : s.vm.findClass "java/lang/RuntimeException" = some m.cls := findClass_of_methodNamed Bd.named
  have hnm := (name_of_methodNamed Bd.named Bd.method).1
  obtain ⟨hTK, hBelow⟩ := hK
  have hTK0 := hTK
  have hBelow0 := hBelow
  have X0 : Stand p l e ({ frames := 5, cells := 1, slots := 2752, locals := 68 } : Room) s m #[(.ref a1), (.ref msg)] below meth c s₁ [] 0 0 := Stand.of_body Bd
  have e0 : s₁.heap = h0 := by rw [← hh, Bd.state]; rfl
  have N0 := Fr.nil n0
  have pre0 : ∀ t, Steps p.tables e below (s₁.setTop (mkF m 0 #[.val (.ref a1), .val (.ref msg)] [])) t → Steps p.tables e below (s₁.setTop (entryFrame m #[(.ref a1), (.ref msg)] 2)) t := fun t k => castTop (ef_7_xx m a1 msg) k
  have J1 : ∀ t, Steps p.tables e below (s₁.setTop (mkF m 2 #[.val (.ref a1), .val (.ref msg)] [(.ref msg), (.ref a1)])) t → Steps p.tables e below (s₁.setTop (entryFrame m #[(.ref a1), (.ref msg)] 2)) t := fun t k => pre0 t (by
      show Steps p.tables e below (s₁.setTop (mkF m 0 #[.val (.ref a1), .val (.ref msg)] [])) _
      refine XS.aloadN X0.here hx rfl (hb hby d7_0) rfl rfl ?_
      show Steps p.tables e below (s₁.setTop (mkF m 1 #[.val (.ref a1), .val (.ref msg)] [(.ref a1)])) _
      refine XS.aloadN X0.here hx rfl (hb hby d7_1) rfl rfl ?_
      exact k)
  obtain ⟨_, _, ⟨T2, L2, k2, n2⟩, -, X2, ⟨Lc2, hQ2, l2, y2, z2⟩, st2⟩ := X0.specialBack hx (y := (⟨"java/lang/Exception", "<init>", "(Ljava/lang/String;)V"⟩ : MethodName)) rfl hown (mvT hZ (hw _ (List.mem_of_getElem? (i := 49) rfl))) (mvT hZ (hw _ (List.mem_of_getElem? (i := 50) rfl))) (mvT hZ (hw _ (List.mem_of_getElem? (i := 54) rfl))) (by decide) (backOfKL (W := 0) (rm8 l hl Z a0 hw [] a1 msg us ss u1 u2 u3 h0 n0 Z0 E_a1 g_a1 (by assumption) F_cause_a1 F_stackTrace_a1 F_suppressedExceptions_a1 F_detailMessage_a1 F_backtrace_a1 S_UNASSIGNED_STACK S_SUPPRESSED_SENTINEL (by assumption)) hZ (hw _ (List.mem_of_getElem? (i := 54) rfl)) (hw _ (List.mem_of_getElem? (i := 53) rfl)) (by decide) (by decide) hTK hBelow) (g := (mkF m 2 #[.val (.ref a1), .val (.ref msg)] [(.ref msg), (.ref a1)])) rfl (by rw [hml]; rfl) (Steps.refl _) (a := a1) (argsL := [(.ref msg)]) (rest := []) (lenOf pd_0 rfl) rfl (by show 2 * 0 + _ ≤ _; exact Nat.le_of_eq rfl) (hb hby d7_2) (fun _ _ => ⟨rfl, e0, (by decide : 0 + 1 ≤ _), (by decide : 0 + 2752 ≤ _)⟩)
  dsimp only [Pt.U, Pt.locs, Pt.cells, Pt.slots] at X2 l2 y2 z2 st2 hQ2
  subst y2 z2
  obtain ⟨rfl, Nq2, K2, p2_1, p2_2⟩ := hQ2
  have N3 : Fr n0 L2 := by rw [l2]; exact Fr.app N0 Nq2
  have J4 : ∀ t, Steps p.tables e below (T2.setTop (mkF m 5 #[.val (.ref a1), .val (.ref msg)] [])) t → Steps p.tables e below (s₁.setTop (entryFrame m #[(.ref a1), (.ref msg)] 2)) t := fun t k => J1 t (st2.trans k)
  have Z5 : n0 ≤ T2.heap.size := Nat.le_trans Z0 K2.1
  have KK6 : Keep h0 T2.heap [a1] := (Keep.refl h0 [a1]).trans K2 (allS (Or.inl (List.mem_of_getElem? (i := 0) rfl)) all0)
  obtain ⟨fs, hr, hrun, hended, hW, hsame⟩ := X2.leave (v := none) (fun _ => rfl)
  refine ⟨_, _, J4 _ ?_, hrun, hended, _, _, rfl, ?_, ⟨_, rfl⟩, hW, hsame.mono (by decide) (by decide)⟩
  · show Steps p.tables e below (T2.setTop (mkF m 5 #[.val (.ref a1), .val (.ref msg)] [])) _
    exact X2.returnOut hx Bd.returns (hb hby d7_5) hr
  · show Q7 Z a1 msg us ss u1 u2 u3 h0 n0 _ T2.heap _
    exact ⟨rfl, N3, KK6, p2_1, p2_2⟩
theorem d6_0 : decode jdk_84_method_2_code 0 = .ok (.aload_n 0, 1) := by decide +kernel
theorem d6_1 : decode jdk_84_method_2_code 1 = .ok (.aload_n 1, 1) := by decide +kernel
theorem d6_2 : decode jdk_84_method_2_code 2 = .ok (.invokespecial 7, 3) := by decide +kernel
theorem d6_5 : decode jdk_84_method_2_code 5 = .ok (.return_, 1) := by decide +kernel
theorem pn_6 : plainName "java/lang/ArithmeticException" = true := by first | (simp [plainName, overriddenIn]; done) | decide +kernel
theorem ef_6_xx (m : MethodId) (x0 : Addr) (x1 : Addr) : entryFrame m #[(.ref x0), (.ref x1)] 2 = mkF m 0 #[.val (.ref x0), .val (.ref x1)] [] := by first | (simp [entryFrame, mkF, argsToLocals, Value.category]; done) | rfl
def Q6 (Z : State) (a1 : Addr) (msg : Addr) (us : Addr) (ss : Addr) (u1 : Value) (u2 : Value) (u3 : Value) (h0 : Heap) (n0 : Nat) (v : Option Value) (h : Heap) (L : List Loc) : Prop := v = none ∧ Fr n0 L ∧ Keep h0 h [a1] ∧ (Exa Z h a1 "java/lang/ArithmeticException") ∧ (Unt h a1)
set_option maxRecDepth 65536 in
set_option maxHeartbeats 40000000 in
theorem rm6 (l : Launch) (hl : l.stackTraces = true) (Z : State) (a0 : Array Value) (hw : ∀ d ∈ tables_1, d.before a0 Z = true) (ws : List Jvm.Cond) (a1 : Addr) (msg : Addr) (us : Addr) (ss : Addr) (u1 : Value) (u2 : Value) (u3 : Value) (h0 : Heap) (n0 : Nat) (Z0 : n0 ≤ h0.size) (E_a1 : Exa Z h0 a1 "java/lang/ArithmeticException") (g_a1 : n0 ≤ a1) (N : Unt h0 a1) (F_cause_a1 : Fld Z h0 a1 "java/lang/Throwable" "cause" "Ljava/lang/Throwable;" u1) (F_stackTrace_a1 : Fld Z h0 a1 "java/lang/Throwable" "stackTrace" "[Ljava/lang/StackTraceElement;" u2) (F_suppressedExceptions_a1 : Fld Z h0 a1 "java/lang/Throwable" "suppressedExceptions" "Ljava/util/List;" u3) (F_detailMessage_a1 : Fld Z h0 a1 "java/lang/Throwable" "detailMessage" "Ljava/lang/String;" .null) (F_backtrace_a1 : Fld Z h0 a1 "java/lang/Throwable" "backtrace" "Ljava/lang/Object;" .null) (S_UNASSIGNED_STACK : Sta Z h0 "java/lang/Throwable" "UNASSIGNED_STACK" "[Ljava/lang/StackTraceElement;" (.ref us)) (S_SUPPRESSED_SENTINEL : Sta Z h0 "java/lang/Throwable" "SUPPRESSED_SENTINEL" "Ljava/util/List;" (.ref ss)) (hE : Ext Z.heap h0) :
    MetFree l (⟨"java/lang/ArithmeticException", "<init>", "(Ljava/lang/String;)V"⟩ : MethodName) (head1 (Jvm.Cond.code (⟨"java/lang/ArithmeticException", "<init>", "(Ljava/lang/String;)V"⟩ : MethodName) jdk_84_method_2_code 2 none :: ws) ({ frames := 6, cells := 1, slots := 2752, locals := 81 } : Room)) (fun a U => a = #[(.ref a1), (.ref msg)] ∧ Z.Warmed39 U.vm ∧ U.heap = h0) (fun _ _ bl s _ => s.vm.MethodsKnown ∧ s.vm.FramesKnown bl) (fun _ U o U' => ∃ v L, o = .returned v ∧ Q6 Z a1 msg us ss u1 u2 u3 h0 n0 v U'.heap L ∧ FrameEnd U o U' L ({ frames := 6, cells := 1, slots := 2752, locals := 81 } : Room).cells ({ frames := 6, cells := 1, slots := 2752, locals := 81 } : Room).slots) := by
  refine MetFree.of_bodySF (plainFor_of_name pn_6) hisR ?_
  intro p e s m args below meth c s₁ Bd hml0 hP hK
  obtain ⟨rfl, hZ, hh⟩ := hP
  have hx := Bd.exec
  have hby := Bd.bytes
  have hml : c.maxLocals = 2 := hml0
  have hown : s.vm.findClass "java/lang/ArithmeticException" = some m.cls := findClass_of_methodNamed Bd.named
  have hnm := (name_of_methodNamed Bd.named Bd.method).1
  obtain ⟨hTK, hBelow⟩ := hK
  have hTK0 := hTK
  have hBelow0 := hBelow
  have X0 : Stand p l e ({ frames := 6, cells := 1, slots := 2752, locals := 81 } : Room) s m #[(.ref a1), (.ref msg)] below meth c s₁ [] 0 0 := Stand.of_body Bd
  have e0 : s₁.heap = h0 := by rw [← hh, Bd.state]; rfl
  have N0 := Fr.nil n0
  have pre0 : ∀ t, Steps p.tables e below (s₁.setTop (mkF m 0 #[.val (.ref a1), .val (.ref msg)] [])) t → Steps p.tables e below (s₁.setTop (entryFrame m #[(.ref a1), (.ref msg)] 2)) t := fun t k => castTop (ef_6_xx m a1 msg) k
  have J1 : ∀ t, Steps p.tables e below (s₁.setTop (mkF m 2 #[.val (.ref a1), .val (.ref msg)] [(.ref msg), (.ref a1)])) t → Steps p.tables e below (s₁.setTop (entryFrame m #[(.ref a1), (.ref msg)] 2)) t := fun t k => pre0 t (by
      show Steps p.tables e below (s₁.setTop (mkF m 0 #[.val (.ref a1), .val (.ref msg)] [])) _
      refine XS.aloadN X0.here hx rfl (hb hby d6_0) rfl rfl ?_
      show Steps p.tables e below (s₁.setTop (mkF m 1 #[.val (.ref a1), .val (.ref msg)] [(.ref a1)])) _
      refine XS.aloadN X0.here hx rfl (hb hby d6_1) rfl rfl ?_
      exact k)
  obtain ⟨_, _, ⟨T2, L2, k2, n2⟩, -, X2, ⟨Lc2, hQ2, l2, y2, z2⟩, st2⟩ := X0.specialBack hx (y := (⟨"java/lang/RuntimeException", "<init>", "(Ljava/lang/String;)V"⟩ : MethodName)) rfl hown (mvT hZ (hw _ (List.mem_of_getElem? (i := 43) rfl))) (mvT hZ (hw _ (List.mem_of_getElem? (i := 44) rfl))) (mvT hZ (hw _ (List.mem_of_getElem? (i := 48) rfl))) (by decide) (backOfKL (W := 0) (rm7 l hl Z a0 hw [] a1 msg us ss u1 u2 u3 h0 n0 Z0 E_a1 g_a1 (by assumption) F_cause_a1 F_stackTrace_a1 F_suppressedExceptions_a1 F_detailMessage_a1 F_backtrace_a1 S_UNASSIGNED_STACK S_SUPPRESSED_SENTINEL (by assumption)) hZ (hw _ (List.mem_of_getElem? (i := 48) rfl)) (hw _ (List.mem_of_getElem? (i := 47) rfl)) (by decide) (by decide) hTK hBelow) (g := (mkF m 2 #[.val (.ref a1), .val (.ref msg)] [(.ref msg), (.ref a1)])) rfl (by rw [hml]; rfl) (Steps.refl _) (a := a1) (argsL := [(.ref msg)]) (rest := []) (lenOf pd_0 rfl) rfl (by show 2 * 0 + _ ≤ _; exact Nat.le_of_eq rfl) (hb hby d6_2) (fun _ _ => ⟨rfl, e0, (by decide : 0 + 1 ≤ _), (by decide : 0 + 2752 ≤ _)⟩)
  dsimp only [Pt.U, Pt.locs, Pt.cells, Pt.slots] at X2 l2 y2 z2 st2 hQ2
  subst y2 z2
  obtain ⟨rfl, Nq2, K2, p2_1, p2_2⟩ := hQ2
  have N3 : Fr n0 L2 := by rw [l2]; exact Fr.app N0 Nq2
  have J4 : ∀ t, Steps p.tables e below (T2.setTop (mkF m 5 #[.val (.ref a1), .val (.ref msg)] [])) t → Steps p.tables e below (s₁.setTop (entryFrame m #[(.ref a1), (.ref msg)] 2)) t := fun t k => J1 t (st2.trans k)
  have Z5 : n0 ≤ T2.heap.size := Nat.le_trans Z0 K2.1
  have KK6 : Keep h0 T2.heap [a1] := (Keep.refl h0 [a1]).trans K2 (allS (Or.inl (List.mem_of_getElem? (i := 0) rfl)) all0)
  obtain ⟨fs, hr, hrun, hended, hW, hsame⟩ := X2.leave (v := none) (fun _ => rfl)
  refine ⟨_, _, J4 _ ?_, hrun, hended, _, _, rfl, ?_, ⟨_, rfl⟩, hW, hsame.mono (by decide) (by decide)⟩
  · show Steps p.tables e below (T2.setTop (mkF m 5 #[.val (.ref a1), .val (.ref msg)] [])) _
    exact X2.returnOut hx Bd.returns (hb hby d6_5) hr
  · show Q6 Z a1 msg us ss u1 u2 u3 h0 n0 _ T2.heap _
    exact ⟨rfl, N3, KK6, p2_1, p2_2⟩
theorem d5_0 : decode jdk_29_method_25_code 0 = .ok (.lload_n 0, 1) := by decide +kernel
theorem d5_1 : decode jdk_29_method_25_code 1 = .ok (.lload_n 2, 1) := by decide +kernel
theorem d5_2 : decode jdk_29_method_25_code 2 = .ok (.ladd, 1) := by decide +kernel
theorem d5_3 : decode jdk_29_method_25_code 3 = .ok (.lstore 4, 2) := by decide +kernel
theorem d5_5 : decode jdk_29_method_25_code 5 = .ok (.lload_n 0, 1) := by decide +kernel
theorem d5_6 : decode jdk_29_method_25_code 6 = .ok (.lload 4, 2) := by decide +kernel
theorem d5_8 : decode jdk_29_method_25_code 8 = .ok (.lxor, 1) := by decide +kernel
theorem d5_9 : decode jdk_29_method_25_code 9 = .ok (.lload_n 2, 1) := by decide +kernel
theorem d5_10 : decode jdk_29_method_25_code 10 = .ok (.lload 4, 2) := by decide +kernel
theorem d5_12 : decode jdk_29_method_25_code 12 = .ok (.lxor, 1) := by decide +kernel
theorem d5_13 : decode jdk_29_method_25_code 13 = .ok (.land, 1) := by decide +kernel
theorem d5_14 : decode jdk_29_method_25_code 14 = .ok (.lconst 0, 1) := by decide +kernel
theorem d5_15 : decode jdk_29_method_25_code 15 = .ok (.lcmp, 1) := by decide +kernel
theorem d5_16 : decode jdk_29_method_25_code 16 = .ok (.ifCond .ge 13, 3) := by decide +kernel
theorem d5_19 : decode jdk_29_method_25_code 19 = .ok (.new 109, 3) := by decide +kernel
theorem d5_22 : decode jdk_29_method_25_code 22 = .ok (.dup, 1) := by decide +kernel
theorem d5_23 : decode jdk_29_method_25_code 23 = .ok (.ldc 116, 2) := by decide +kernel
theorem d5_25 : decode jdk_29_method_25_code 25 = .ok (.invokespecial 113, 3) := by decide +kernel
theorem d5_28 : decode jdk_29_method_25_code 28 = .ok (.athrow, 1) := by decide +kernel
theorem ef_5_xx (m : MethodId) (x0 : Int64) (x1 : Int64) : entryFrame m #[(.long x0), (.long x1)] 6 = mkF m 0 #[.val (.long x0), .second, .val (.long x1), .second, .unset, .unset] [] := by first | (simp [entryFrame, mkF, argsToLocals, Value.category]; done) | rfl
set_option maxRecDepth 65536 in
set_option maxHeartbeats 40000000 in
theorem rm5 (l : Launch) (hl : l.stackTraces = true) (Z : State) (a0 : Array Value) (hw : ∀ d ∈ tables_1, d.before a0 Z = true) (ws : List Jvm.Cond) (us : Addr) (ss : Addr) (h0 : Heap) (n0 : Nat) (Z0 : n0 ≤ h0.size) (O : Old Z n0 h0) (Zs_UNASSIGNED_STACK : Sta Z Z.heap "java/lang/Throwable" "UNASSIGNED_STACK" "[Ljava/lang/StackTraceElement;" (.ref us)) (Zs_SUPPRESSED_SENTINEL : Sta Z Z.heap "java/lang/Throwable" "SUPPRESSED_SENTINEL" "Ljava/util/List;" (.ref ss)) :
    MetFree l (⟨"java/lang/Math", "addExact", "(JJ)J"⟩ : MethodName) (head1 (Jvm.Cond.code (⟨"java/lang/Math", "addExact", "(JJ)J"⟩ : MethodName) jdk_29_method_25_code 6 (some .long) :: ws) ({ frames := 7, cells := 4, slots := 2814, locals := 95 } : Room)) (fun a U => a = #[(.long (9223372036854775807 : Int64)), (.long (1 : Int64))] ∧ Z.Warmed39 U.vm ∧ U.heap = h0) (fun _ _ bl s _ => s.vm.MethodsKnown ∧ s.vm.FramesKnown bl) (fun _ U o U' => ThrewNewW "java/lang/ArithmeticException" U [] ({ frames := 7, cells := 4, slots := 2814, locals := 95 } : Room).cells ({ frames := 7, cells := 4, slots := 2814, locals := 95 } : Room).slots o U') := by
  refine MetFree.of_bodySF (Jvm.Free.JP.mathPlain rfl (by decide +kernel)) hisR ?_
  intro p e s m args below meth c s₁ Bd hml0 hP hK
  obtain ⟨rfl, hZ, hh⟩ := hP
  have hx := Bd.exec
  have hby := Bd.bytes
  have hml : c.maxLocals = 6 := hml0
  have hown : s.vm.findClass "java/lang/Math" = some m.cls := findClass_of_methodNamed Bd.named
  have hnm := (name_of_methodNamed Bd.named Bd.method).1
  obtain ⟨hTK, hBelow⟩ := hK
  have hTK0 := hTK
  have hBelow0 := hBelow
  have own_wS : ∀ a ∈ Bundle.stringAtoms, a.before a0 Z = true := own_words hw
  have hSi : s.Since s.vm h0.size := (State.WarmedH.refl s).since _
  have kz : h0.size ≤ h0.size := Nat.le_refl _
  have hZ : Z.Warmed39 (s.setVm s.vm).vm := hZ
  have hown : (s.setVm s.vm).vm.findClass "java/lang/Math" = some m.cls := hown
  have hTK : (s.setVm s.vm).vm.MethodsKnown := hTK
  have hBelow : (s.setVm s.vm).vm.FramesKnown below := hBelow
  have X0 : Stand p l e ({ frames := 7, cells := 4, slots := 2814, locals := 95 } : Room) (s.setVm s.vm) m #[(.long (9223372036854775807 : Int64)), (.long (1 : Int64))] below meth c s₁ [] 0 0 := Stand.of_body Bd
  have e0 : s₁.heap = h0 := by rw [← hh, Bd.state]; rfl
  have N0 := Fr.nil n0
  have pre0 : ∀ t, Steps p.tables e below (s₁.setTop (mkF m 0 #[.val (.long (9223372036854775807 : Int64)), .second, .val (.long (1 : Int64)), .second, .unset, .unset] [])) t → Steps p.tables e below (s₁.setTop (entryFrame m #[(.long (9223372036854775807 : Int64)), (.long (1 : Int64))] 6)) t := fun t k => castTop (ef_5_xx m (9223372036854775807 : Int64) (1 : Int64)) k
  have htab : c.exceptionTable.toList = [] := by
    obtain ⟨meth', c', qm, qc, -, -, -, -, qt, -⟩ := Cond.code_spec Bd.named (mvT (args := #[]) (s := s) hZ (hw _ (List.mem_of_getElem? (i := 27) rfl)))
    cases X0.method.symm.trans qm
    cases X0.code.symm.trans qc
    simpa using qt
  have J1 : ∀ t, Steps p.tables e below (s₁.setTop (mkF m 16 #[.val (.long (9223372036854775807 : Int64)), .second, .val (.long (1 : Int64)), .second, .val (.long ((9223372036854775807 : Int64) + (1 : Int64))), .second] [(.int (lcmpW (((9223372036854775807 : Int64) ^^^ ((9223372036854775807 : Int64) + (1 : Int64))) &&& ((1 : Int64) ^^^ ((9223372036854775807 : Int64) + (1 : Int64)))) (0 : Int64)))])) t → Steps p.tables e below (s₁.setTop (entryFrame m #[(.long (9223372036854775807 : Int64)), (.long (1 : Int64))] 6)) t := fun t k => pre0 t (by
      show Steps p.tables e below (s₁.setTop (mkF m 0 #[.val (.long (9223372036854775807 : Int64)), .second, .val (.long (1 : Int64)), .second, .unset, .unset] [])) _
      refine XS.lloadN X0.here hx rfl (hb hby d5_0) rfl ?_
      show Steps p.tables e below (s₁.setTop (mkF m 1 #[.val (.long (9223372036854775807 : Int64)), .second, .val (.long (1 : Int64)), .second, .unset, .unset] [(.long (9223372036854775807 : Int64))])) _
      refine XS.lloadN X0.here hx rfl (hb hby d5_1) rfl ?_
      show Steps p.tables e below (s₁.setTop (mkF m 2 #[.val (.long (9223372036854775807 : Int64)), .second, .val (.long (1 : Int64)), .second, .unset, .unset] [(.long (1 : Int64)), (.long (9223372036854775807 : Int64))])) _
      refine XS.ladd X0.here hx rfl (hb hby d5_2) rfl ?_
      show Steps p.tables e below (s₁.setTop (mkF m 3 #[.val (.long (9223372036854775807 : Int64)), .second, .val (.long (1 : Int64)), .second, .unset, .unset] [(.long ((9223372036854775807 : Int64) + (1 : Int64)))])) _
      refine XS.lstore X0.here hx rfl (hb hby d5_3) rfl (l' := #[.val (.long (9223372036854775807 : Int64)), .second, .val (.long (1 : Int64)), .second, .val (.long ((9223372036854775807 : Int64) + (1 : Int64))), .second]) rfl ?_
      show Steps p.tables e below (s₁.setTop (mkF m 5 #[.val (.long (9223372036854775807 : Int64)), .second, .val (.long (1 : Int64)), .second, .val (.long ((9223372036854775807 : Int64) + (1 : Int64))), .second] [])) _
      refine XS.lloadN X0.here hx rfl (hb hby d5_5) rfl ?_
      show Steps p.tables e below (s₁.setTop (mkF m 6 #[.val (.long (9223372036854775807 : Int64)), .second, .val (.long (1 : Int64)), .second, .val (.long ((9223372036854775807 : Int64) + (1 : Int64))), .second] [(.long (9223372036854775807 : Int64))])) _
      refine XS.lload X0.here hx rfl (hb hby d5_6) rfl ?_
      show Steps p.tables e below (s₁.setTop (mkF m 8 #[.val (.long (9223372036854775807 : Int64)), .second, .val (.long (1 : Int64)), .second, .val (.long ((9223372036854775807 : Int64) + (1 : Int64))), .second] [(.long ((9223372036854775807 : Int64) + (1 : Int64))), (.long (9223372036854775807 : Int64))])) _
      refine XS.lxor X0.here hx rfl (hb hby d5_8) rfl ?_
      show Steps p.tables e below (s₁.setTop (mkF m 9 #[.val (.long (9223372036854775807 : Int64)), .second, .val (.long (1 : Int64)), .second, .val (.long ((9223372036854775807 : Int64) + (1 : Int64))), .second] [(.long ((9223372036854775807 : Int64) ^^^ ((9223372036854775807 : Int64) + (1 : Int64))))])) _
      refine XS.lloadN X0.here hx rfl (hb hby d5_9) rfl ?_
      show Steps p.tables e below (s₁.setTop (mkF m 10 #[.val (.long (9223372036854775807 : Int64)), .second, .val (.long (1 : Int64)), .second, .val (.long ((9223372036854775807 : Int64) + (1 : Int64))), .second] [(.long (1 : Int64)), (.long ((9223372036854775807 : Int64) ^^^ ((9223372036854775807 : Int64) + (1 : Int64))))])) _
      refine XS.lload X0.here hx rfl (hb hby d5_10) rfl ?_
      show Steps p.tables e below (s₁.setTop (mkF m 12 #[.val (.long (9223372036854775807 : Int64)), .second, .val (.long (1 : Int64)), .second, .val (.long ((9223372036854775807 : Int64) + (1 : Int64))), .second] [(.long ((9223372036854775807 : Int64) + (1 : Int64))), (.long (1 : Int64)), (.long ((9223372036854775807 : Int64) ^^^ ((9223372036854775807 : Int64) + (1 : Int64))))])) _
      refine XS.lxor X0.here hx rfl (hb hby d5_12) rfl ?_
      show Steps p.tables e below (s₁.setTop (mkF m 13 #[.val (.long (9223372036854775807 : Int64)), .second, .val (.long (1 : Int64)), .second, .val (.long ((9223372036854775807 : Int64) + (1 : Int64))), .second] [(.long ((1 : Int64) ^^^ ((9223372036854775807 : Int64) + (1 : Int64)))), (.long ((9223372036854775807 : Int64) ^^^ ((9223372036854775807 : Int64) + (1 : Int64))))])) _
      refine XS.land X0.here hx rfl (hb hby d5_13) rfl ?_
      show Steps p.tables e below (s₁.setTop (mkF m 14 #[.val (.long (9223372036854775807 : Int64)), .second, .val (.long (1 : Int64)), .second, .val (.long ((9223372036854775807 : Int64) + (1 : Int64))), .second] [(.long (((9223372036854775807 : Int64) ^^^ ((9223372036854775807 : Int64) + (1 : Int64))) &&& ((1 : Int64) ^^^ ((9223372036854775807 : Int64) + (1 : Int64)))))])) _
      refine XS.lconst X0.here hx rfl (hb hby d5_14) ?_
      show Steps p.tables e below (s₁.setTop (mkF m 15 #[.val (.long (9223372036854775807 : Int64)), .second, .val (.long (1 : Int64)), .second, .val (.long ((9223372036854775807 : Int64) + (1 : Int64))), .second] [(.long (0 : Int64)), (.long (((9223372036854775807 : Int64) ^^^ ((9223372036854775807 : Int64) + (1 : Int64))) &&& ((1 : Int64) ^^^ ((9223372036854775807 : Int64) + (1 : Int64)))))])) _
      refine XS.lcmp X0.here hx rfl (hb hby d5_15) rfl ?_
      exact k)
  have J2 : ∀ t, Steps p.tables e below (s₁.setTop (mkF m 16 #[.val (.long (9223372036854775807 : Int64)), .second, .val (.long (1 : Int64)), .second, .val (.long ((9223372036854775807 : Int64) + (1 : Int64))), .second] [(.int (-1 : Int32))])) t → Steps p.tables e below (s₁.setTop (entryFrame m #[(.long (9223372036854775807 : Int64)), (.long (1 : Int64))] 6)) t := fun t k => J1 t (by rw [(by decide : (lcmpW (((9223372036854775807 : Int64) ^^^ ((9223372036854775807 : Int64) + (1 : Int64))) &&& ((1 : Int64) ^^^ ((9223372036854775807 : Int64) + (1 : Int64)))) (0 : Int64)) = (-1 : Int32))]; exact k)
  have J3 : ∀ t, Steps p.tables e below (s₁.setTop (mkF m 19 #[.val (.long (9223372036854775807 : Int64)), .second, .val (.long (1 : Int64)), .second, .val (.long ((9223372036854775807 : Int64) + (1 : Int64))), .second] [])) t → Steps p.tables e below (s₁.setTop (entryFrame m #[(.long (9223372036854775807 : Int64)), (.long (1 : Int64))] 6)) t := fun t k => J2 t (by
      show Steps p.tables e below (s₁.setTop (mkF m 16 #[.val (.long (9223372036854775807 : Int64)), .second, .val (.long (1 : Int64)), .second, .val (.long ((9223372036854775807 : Int64) + (1 : Int64))), .second] [(.int (-1 : Int32))])) _
      refine XS.ifNo X0.here hx rfl (hb hby d5_16) rfl ((if0 _ _).trans (tlt (by decide)).2.1) ?_
      exact k)
  obtain ⟨T4, h4, X4, e4, E4, A4, D4, U4, st4⟩ := newO X0 hx hZ hown (hw _ (List.mem_of_getElem? (i := 28) rfl)) (hw _ (List.mem_of_getElem? (i := 29) rfl)) (hw _ (List.mem_of_getElem? (i := 30) rfl)) e0 (g := (mkF m 19 #[.val (.long (9223372036854775807 : Int64)), .second, .val (.long (1 : Int64)), .second, .val (.long ((9223372036854775807 : Int64) + (1 : Int64))), .second] [])) rfl (hb hby d5_19) (by decide) (by decide)
  obtain ⟨b4, g4⟩ : ∃ z, z = h0.size := ⟨_, rfl⟩
  rw [← g4] at A4 D4 U4 st4
  have J5 : ∀ t, Steps p.tables e below (T4.setTop (mkF m 22 #[.val (.long (9223372036854775807 : Int64)), .second, .val (.long (1 : Int64)), .second, .val (.long ((9223372036854775807 : Int64) + (1 : Int64))), .second] [(.ref b4)])) t → Steps p.tables e below (s₁.setTop (entryFrame m #[(.long (9223372036854775807 : Int64)), (.long (1 : Int64))] 6)) t := fun t k => J3 t (st4 t k)
  have ge6 : n0 ≤ b4 := Nat.le_trans Z0 (Nat.le_of_eq g4.symm)
  have Z7 : n0 ≤ h4.size := Nat.le_trans Z0 E4.1
  have kz := Nat.le_trans kz E4.1
  have F4_cause : Fld Z h4 b4 "java/lang/Throwable" "cause" "Ljava/lang/Throwable;" .null := D4 (Or.inl (hw _ (List.mem_of_getElem? (i := 63) rfl))) (ty := (.object "java/lang/Throwable")) (by decide)
  have F4_stackTrace : Fld Z h4 b4 "java/lang/Throwable" "stackTrace" "[Ljava/lang/StackTraceElement;" .null := D4 (Or.inl (hw _ (List.mem_of_getElem? (i := 66) rfl))) (ty := (.array (.object "java/lang/StackTraceElement"))) (by decide)
  have F4_suppressedExceptions : Fld Z h4 b4 "java/lang/Throwable" "suppressedExceptions" "Ljava/util/List;" .null := D4 (Or.inl (hw _ (List.mem_of_getElem? (i := 69) rfl))) (ty := (.object "java/util/List")) (by decide)
  have F4_detailMessage : Fld Z h4 b4 "java/lang/Throwable" "detailMessage" "Ljava/lang/String;" .null := D4 (Or.inl (hw _ (List.mem_of_getElem? (i := 93) rfl))) (ty := (.object "java/lang/String")) (by decide)
  have F4_backtrace : Fld Z h4 b4 "java/lang/Throwable" "backtrace" "Ljava/lang/Object;" .null := D4 (Or.inl (hw _ (List.mem_of_getElem? (i := 94) rfl))) (ty := (.object "java/lang/Object")) (by decide)
  have F4_depth : Fld Z h4 b4 "java/lang/Throwable" "depth" "I" (.int (0 : Int32)) := D4 (Or.inl (hw _ (List.mem_of_getElem? (i := 95) rfl))) (ty := .int) (by decide)
  have J8 : ∀ t, Steps p.tables e below (T4.setTop (mkF m 23 #[.val (.long (9223372036854775807 : Int64)), .second, .val (.long (1 : Int64)), .second, .val (.long ((9223372036854775807 : Int64) + (1 : Int64))), .second] [(.ref b4), (.ref b4)])) t → Steps p.tables e below (s₁.setTop (entryFrame m #[(.long (9223372036854775807 : Int64)), (.long (1 : Int64))] 6)) t := fun t k => J5 t (by
      show Steps p.tables e below (T4.setTop (mkF m 22 #[.val (.long (9223372036854775807 : Int64)), .second, .val (.long (1 : Int64)), .second, .val (.long ((9223372036854775807 : Int64) + (1 : Int64))), .second] [(.ref b4)])) _
      refine XS.dup X4.here hx rfl (hb hby d5_22) rfl rfl ?_
      exact k)
  have f9 := O.ext E4
  have S_UNASSIGNED_STACK := Zs_UNASSIGNED_STACK.ext f9.2
  have S_SUPPRESSED_SENTINEL := Zs_SUPPRESSED_SENTINEL.ext f9.2
  obtain ⟨b10, T10, h10, k10, X10, e10, E10, hSi, kz, hZ, hown, st10⟩ := ldcS X4 hx hZ hown (hw _ (List.mem_of_getElem? (i := 31) rfl)) own_wS e4 hSi kz (g := (mkF m 23 #[.val (.long (9223372036854775807 : Int64)), .second, .val (.long (1 : Int64)), .second, .val (.long ((9223372036854775807 : Int64) + (1 : Int64))), .second] [(.ref b4), (.ref b4)])) rfl (hb hby d5_23) (n := 52) (by decide) (by decide) (by decide) (by decide)
  have J11 : ∀ t, Steps p.tables e below (T10.setTop (mkF m 25 #[.val (.long (9223372036854775807 : Int64)), .second, .val (.long (1 : Int64)), .second, .val (.long ((9223372036854775807 : Int64) + (1 : Int64))), .second] [(.ref b10), (.ref b4), (.ref b4)])) t → Steps p.tables e below (s₁.setTop (entryFrame m #[(.long (9223372036854775807 : Int64)), (.long (1 : Int64))] 6)) t := fun t k => J8 t (st10 t k)
  have hTK := Vm.MethodsKnown.alikeC hSi.1.alike hTK0
  have hBelow := Vm.FramesKnown.alikeC hSi.1.alike hBelow0
  have Z12 : n0 ≤ h10.size := Nat.le_trans Z7 E10.1
  have f13 := f9.ext E10
  have f14 := A4.ext E10
  have f15 := F4_cause.ext E10
  have f16 := F4_stackTrace.ext E10
  have f17 := F4_suppressedExceptions.ext E10
  have f18 := F4_detailMessage.ext E10
  have f19 := F4_backtrace.ext E10
  have f20 := S_UNASSIGNED_STACK.ext E10
  have f21 := S_SUPPRESSED_SENTINEL.ext E10
  obtain ⟨_, _, ⟨T22, L22, k22, n22⟩, -, X22, ⟨Lc22, hQ22, l22, y22, z22⟩, st22⟩ := X10.specialBack hx (y := (⟨"java/lang/ArithmeticException", "<init>", "(Ljava/lang/String;)V"⟩ : MethodName)) rfl hown (mvT hZ (hw _ (List.mem_of_getElem? (i := 39) rfl))) (mvT hZ (hw _ (List.mem_of_getElem? (i := 40) rfl))) (mvT hZ (hw _ (List.mem_of_getElem? (i := 42) rfl))) (by decide) (backOfKL (W := 1) (rm6 l hl Z a0 hw [] b4 b10 us ss .null .null .null h10 h0.size (Nat.le_trans E4.1 E10.1) f14 (Nat.le_of_eq g4.symm) (Unt.ext E10 U4) f15 f16 f17 f18 f19 f20 f21 f13.2) hZ (hw _ (List.mem_of_getElem? (i := 42) rfl)) (hw _ (List.mem_of_getElem? (i := 30) rfl)) (by decide) (by decide) hTK hBelow) (g := (mkF m 25 #[.val (.long (9223372036854775807 : Int64)), .second, .val (.long (1 : Int64)), .second, .val (.long ((9223372036854775807 : Int64) + (1 : Int64))), .second] [(.ref b10), (.ref b4), (.ref b4)])) rfl (by rw [hml]; rfl) (Steps.refl _) (a := b4) (argsL := [(.ref b10)]) (rest := [(.ref b4)]) (lenOf pd_0 rfl) rfl (by show 2 * 0 + _ ≤ _; exact Nat.le_of_eq rfl) (hb hby d5_25) (fun _ _ => ⟨rfl, e10, (by decide : 3 + 1 ≤ _), (by decide : 62 + 2752 ≤ _)⟩)
  dsimp only [Pt.U, Pt.locs, Pt.cells, Pt.slots] at X22 l22 y22 z22 st22 hQ22
  subst y22 z22
  obtain ⟨rfl, Nq22, K22, p22_1, p22_2⟩ := hQ22
  have N23 : Fr h0.size L22 := by rw [l22]; exact Fr.app (Fr.nil h0.size) Nq22
  have J24 : ∀ t, Steps p.tables e below (T22.setTop (mkF m 28 #[.val (.long (9223372036854775807 : Int64)), .second, .val (.long (1 : Int64)), .second, .val (.long ((9223372036854775807 : Int64) + (1 : Int64))), .second] [(.ref b4)])) t → Steps p.tables e below (s₁.setTop (entryFrame m #[(.long (9223372036854775807 : Int64)), (.long (1 : Int64))] 6)) t := fun t k => J11 t (st22.trans k)
  have Z25 : n0 ≤ T22.heap.size := Nat.le_trans Z12 K22.1
  have kz := Nat.le_trans kz K22.1
  obtain ⟨U, o, sU, hrun, hended, hth⟩ := throwIt X22 hx hZ rfl (cls := "java/lang/ArithmeticException") (hw _ (List.mem_of_getElem? (i := 41) rfl)) p22_1 p22_2 (g := (mkF m 28 #[.val (.long (9223372036854775807 : Int64)), .second, .val (.long (1 : Int64)), .second, .val (.long ((9223372036854775807 : Int64) + (1 : Int64))), .second] [(.ref b4)])) rfl rfl rfl (by rw [htab]; exact fun _ q => nomatch q) rfl (hb hby d5_28) (by first | assumption | exact BodyLoose.notSynchronized (by assumption) | exact Body.notSynchronized (by assumption))
  have hWW := ThrewNew.since hth hSi (Nat.le_trans kz sU.heap_le)
  exact ⟨U, o, J24 _ sU, hrun, hended, threw_monoW hWW (by decide) (by decide) (fun x q => Or.inr (by rw [hh]; exact N23 x q))⟩
theorem d15_0 : decode jdk_18_method_1_code 0 = .ok (.aload_n 0, 1) := by decide +kernel
theorem d15_1 : decode jdk_18_method_1_code 1 = .ok (.invokespecial 1, 3) := by decide +kernel
theorem d15_4 : decode jdk_18_method_1_code 4 = .ok (.return_, 1) := by decide +kernel
theorem pn_15 : plainName "java/lang/Number" = true := by first | (simp [plainName, overriddenIn]; done) | decide +kernel
theorem ef_15_x (m : MethodId) (x0 : Addr) : entryFrame m #[(.ref x0)] 1 = mkF m 0 #[.val (.ref x0)] [] := by first | (simp [entryFrame, mkF, argsToLocals, Value.category]; done) | rfl
def Q15 (Z : State) (a1 : Addr) (h0 : Heap) (n0 : Nat) (v : Option Value) (h : Heap) (L : List Loc) : Prop := v = none ∧ Fr n0 L ∧ h = h0
set_option maxRecDepth 65536 in
set_option maxHeartbeats 40000000 in
theorem rm15 (l : Launch) (Z : State) (a0 : Array Value) (hw : ∀ d ∈ tables_1, d.before a0 Z = true) (ws : List Jvm.Cond) (a1 : Addr) (h0 : Heap) (n0 : Nat) (Z0 : n0 ≤ h0.size) :
    MetFree l (⟨"java/lang/Number", "<init>", "()V"⟩ : MethodName) (head1 (Jvm.Cond.code (⟨"java/lang/Number", "<init>", "()V"⟩ : MethodName) jdk_18_method_1_code 1 none :: ws) ({ frames := 1, cells := 0, slots := 0, locals := 12 } : Room)) (fun a U => a = #[(.ref a1)] ∧ Z.Warmed39 U.vm ∧ U.heap = h0) (fun _ _ _ _ _ => True) (fun _ U o U' => ∃ v L, o = .returned v ∧ Q15 Z a1 h0 n0 v U'.heap L ∧ FrameEnd U o U' L ({ frames := 1, cells := 0, slots := 0, locals := 12 } : Room).cells ({ frames := 1, cells := 0, slots := 0, locals := 12 } : Room).slots) := by
  refine MetFree.of_bodySF (plainFor_of_name pn_15) hisR ?_
  intro p e s m args below meth c s₁ Bd hml0 hP hK
  obtain ⟨rfl, hZ, hh⟩ := hP
  have hx := Bd.exec
  have hby := Bd.bytes
  have hml : c.maxLocals = 1 := hml0
  have hown : s.vm.findClass "java/lang/Number" = some m.cls := findClass_of_methodNamed Bd.named
  have hnm := (name_of_methodNamed Bd.named Bd.method).1
  have X0 : Stand p l e ({ frames := 1, cells := 0, slots := 0, locals := 12 } : Room) s m #[(.ref a1)] below meth c s₁ [] 0 0 := Stand.of_body Bd
  have e0 : s₁.heap = h0 := by rw [← hh, Bd.state]; rfl
  have N0 := Fr.nil n0
  have pre0 : ∀ t, Steps p.tables e below (s₁.setTop (mkF m 0 #[.val (.ref a1)] [])) t → Steps p.tables e below (s₁.setTop (entryFrame m #[(.ref a1)] 1)) t := fun t k => castTop (ef_15_x m a1) k
  have J1 : ∀ t, Steps p.tables e below (s₁.setTop (mkF m 1 #[.val (.ref a1)] [(.ref a1)])) t → Steps p.tables e below (s₁.setTop (entryFrame m #[(.ref a1)] 1)) t := fun t k => pre0 t (by
      show Steps p.tables e below (s₁.setTop (mkF m 0 #[.val (.ref a1)] [])) _
      refine XS.aloadN X0.here hx rfl (hb hby d15_0) rfl rfl ?_
      exact k)
  obtain ⟨T2, X2, e2, st2⟩ := initO X0 hx hZ hown (hw _ (List.mem_of_getElem? (i := 120) rfl)) (hw _ (List.mem_of_getElem? (i := 7) rfl)) (hw _ (List.mem_of_getElem? (i := 8) rfl)) e0 (g := (mkF m 1 #[.val (.ref a1)] [(.ref a1)])) rfl (by rw [hml]; rfl) rfl (hb hby d15_1) (by decide) (W := 0) (by show 2 * 0 + _ ≤ _; exact Nat.le_of_eq rfl) (by decide)
  have J3 : ∀ t, Steps p.tables e below (T2.setTop (mkF m 4 #[.val (.ref a1)] [])) t → Steps p.tables e below (s₁.setTop (entryFrame m #[(.ref a1)] 1)) t := fun t k => J1 t (st2 t k)
  obtain ⟨fs, hr, hrun, hended, hW, hsame⟩ := X2.leave (v := none) (fun _ => rfl)
  refine ⟨_, _, J3 _ ?_, hrun, hended, _, _, rfl, ?_, ⟨_, rfl⟩, hW, hsame.mono (by decide) (by decide)⟩
  · show Steps p.tables e below (T2.setTop (mkF m 4 #[.val (.ref a1)] [])) _
    exact X2.returnOut hx Bd.returns (hb hby d15_4) hr
  · show Q15 Z a1 h0 n0 _ T2.heap _
    rw [e2]
    exact ⟨rfl, N0, rfl⟩
theorem d14_0 : decode jdk_17_method_1_code 0 = .ok (.aload_n 0, 1) := by decide +kernel
theorem d14_1 : decode jdk_17_method_1_code 1 = .ok (.invokespecial 11, 3) := by decide +kernel
theorem pd_1 : parseMethodDescriptor "()V" = some ⟨[], none⟩ := by decide +kernel
theorem d14_4 : decode jdk_17_method_1_code 4 = .ok (.aload_n 0, 1) := by decide +kernel
theorem d14_5 : decode jdk_17_method_1_code 5 = .ok (.iload 4, 2) := by decide +kernel
theorem d14_7 : decode jdk_17_method_1_code 7 = .ok (.putfield 17, 3) := by decide +kernel
theorem d14_10 : decode jdk_17_method_1_code 10 = .ok (.aload_n 0, 1) := by decide +kernel
theorem d14_11 : decode jdk_17_method_1_code 11 = .ok (.iload 5, 2) := by decide +kernel
theorem d14_13 : decode jdk_17_method_1_code 13 = .ok (.putfield 21, 3) := by decide +kernel
theorem d14_16 : decode jdk_17_method_1_code 16 = .ok (.aload_n 0, 1) := by decide +kernel
theorem d14_17 : decode jdk_17_method_1_code 17 = .ok (.lload_n 2, 1) := by decide +kernel
theorem d14_18 : decode jdk_17_method_1_code 18 = .ok (.putfield 24, 3) := by decide +kernel
theorem d14_21 : decode jdk_17_method_1_code 21 = .ok (.aload_n 0, 1) := by decide +kernel
theorem d14_22 : decode jdk_17_method_1_code 22 = .ok (.aload_n 1, 1) := by decide +kernel
theorem d14_23 : decode jdk_17_method_1_code 23 = .ok (.putfield 28, 3) := by decide +kernel
theorem d14_26 : decode jdk_17_method_1_code 26 = .ok (.return_, 1) := by decide +kernel
theorem pn_14 : plainName "java/math/BigDecimal" = true := by first | (simp [plainName, overriddenIn]; done) | decide +kernel
theorem ef_14_xnxxx (m : MethodId) (x0 : Addr) (x2 : Int64) (x3 : Int32) (x4 : Int32) : entryFrame m #[(.ref x0), .null, (.long x2), (.int x3), (.int x4)] 6 = mkF m 0 #[.val (.ref x0), .val .null, .val (.long x2), .second, .val (.int x3), .val (.int x4)] [] := by first | (simp [entryFrame, mkF, argsToLocals, Value.category]; done) | rfl
def Q14 (Z : State) (a1 : Addr) (v1 : Int64) (u1 : Value) (u2 : Value) (u3 : Value) (u4 : Value) (h0 : Heap) (n0 : Nat) (v : Option Value) (h : Heap) (L : List Loc) : Prop := v = none ∧ Fr n0 L ∧ Keep h0 h [a1] ∧ (Exa Z h a1 "java/math/BigDecimal") ∧ (Fld Z h a1 "java/math/BigDecimal" "intVal" "Ljava/math/BigInteger;" .null) ∧ (Fld Z h a1 "java/math/BigDecimal" "intCompact" "J" (.long v1)) ∧ (Fld Z h a1 "java/math/BigDecimal" "scale" "I" (.int (2 : Int32)))
set_option maxRecDepth 65536 in
set_option maxHeartbeats 40000000 in
theorem rm14 (l : Launch) (Z : State) (a0 : Array Value) (hw : ∀ d ∈ tables_1, d.before a0 Z = true) (ws : List Jvm.Cond) (a1 : Addr) (v1 : Int64) (u1 : Value) (u2 : Value) (u3 : Value) (u4 : Value) (h0 : Heap) (n0 : Nat) (Z0 : n0 ≤ h0.size) (E_a1 : Exa Z h0 a1 "java/math/BigDecimal") (g_a1 : n0 ≤ a1) (F_intVal_a1 : Fld Z h0 a1 "java/math/BigDecimal" "intVal" "Ljava/math/BigInteger;" u1) (F_intCompact_a1 : Fld Z h0 a1 "java/math/BigDecimal" "intCompact" "J" u2) (F_scale_a1 : Fld Z h0 a1 "java/math/BigDecimal" "scale" "I" u3) (F_precision_a1 : Fld Z h0 a1 "java/math/BigDecimal" "precision" "I" u4) :
    MetFree l (⟨"java/math/BigDecimal", "<init>", "(Ljava/math/BigInteger;JII)V"⟩ : MethodName) (head1 (Jvm.Cond.code (⟨"java/math/BigDecimal", "<init>", "(Ljava/math/BigInteger;JII)V"⟩ : MethodName) jdk_17_method_1_code 6 none :: ws) ({ frames := 2, cells := 0, slots := 0, locals := 24 } : Room)) (fun a U => a = #[(.ref a1), .null, (.long v1), (.int (2 : Int32)), (.int (0 : Int32))] ∧ Z.Warmed39 U.vm ∧ U.heap = h0) (fun _ _ _ _ _ => True) (fun _ U o U' => ∃ v L, o = .returned v ∧ Q14 Z a1 v1 u1 u2 u3 u4 h0 n0 v U'.heap L ∧ FrameEnd U o U' L ({ frames := 2, cells := 0, slots := 0, locals := 24 } : Room).cells ({ frames := 2, cells := 0, slots := 0, locals := 24 } : Room).slots) := by
  refine MetFree.of_bodySF (plainFor_of_name pn_14) hisR ?_
  intro p e s m args below meth c s₁ Bd hml0 hP hK
  obtain ⟨rfl, hZ, hh⟩ := hP
  have hx := Bd.exec
  have hby := Bd.bytes
  have hml : c.maxLocals = 6 := hml0
  have hown : s.vm.findClass "java/math/BigDecimal" = some m.cls := findClass_of_methodNamed Bd.named
  have hnm := (name_of_methodNamed Bd.named Bd.method).1
  have X0 : Stand p l e ({ frames := 2, cells := 0, slots := 0, locals := 24 } : Room) s m #[(.ref a1), .null, (.long v1), (.int (2 : Int32)), (.int (0 : Int32))] below meth c s₁ [] 0 0 := Stand.of_body Bd
  have e0 : s₁.heap = h0 := by rw [← hh, Bd.state]; rfl
  have N0 := Fr.nil n0
  have pre0 : ∀ t, Steps p.tables e below (s₁.setTop (mkF m 0 #[.val (.ref a1), .val .null, .val (.long v1), .second, .val (.int (2 : Int32)), .val (.int (0 : Int32))] [])) t → Steps p.tables e below (s₁.setTop (entryFrame m #[(.ref a1), .null, (.long v1), (.int (2 : Int32)), (.int (0 : Int32))] 6)) t := fun t k => castTop (ef_14_xnxxx m a1 v1 (2 : Int32) (0 : Int32)) k
  have J1 : ∀ t, Steps p.tables e below (s₁.setTop (mkF m 1 #[.val (.ref a1), .val .null, .val (.long v1), .second, .val (.int (2 : Int32)), .val (.int (0 : Int32))] [(.ref a1)])) t → Steps p.tables e below (s₁.setTop (entryFrame m #[(.ref a1), .null, (.long v1), (.int (2 : Int32)), (.int (0 : Int32))] 6)) t := fun t k => pre0 t (by
      show Steps p.tables e below (s₁.setTop (mkF m 0 #[.val (.ref a1), .val .null, .val (.long v1), .second, .val (.int (2 : Int32)), .val (.int (0 : Int32))] [])) _
      refine XS.aloadN X0.here hx rfl (hb hby d14_0) rfl rfl ?_
      exact k)
  obtain ⟨_, _, ⟨T2, L2, k2, n2⟩, -, X2, ⟨Lc2, hQ2, l2, y2, z2⟩, st2⟩ := X0.specialBack hx (y := (⟨"java/lang/Number", "<init>", "()V"⟩ : MethodName)) rfl hown (mvT hZ (hw _ (List.mem_of_getElem? (i := 114) rfl))) (mvT hZ (hw _ (List.mem_of_getElem? (i := 115) rfl))) (mvT hZ (hw _ (List.mem_of_getElem? (i := 119) rfl))) (by decide) (backOf (W := 0) (rm15 l Z a0 hw [] a1 h0 n0 Z0 ) hZ (hw _ (List.mem_of_getElem? (i := 119) rfl)) (hw _ (List.mem_of_getElem? (i := 118) rfl)) (by decide) (by decide)) (g := (mkF m 1 #[.val (.ref a1), .val .null, .val (.long v1), .second, .val (.int (2 : Int32)), .val (.int (0 : Int32))] [(.ref a1)])) rfl (by rw [hml]; rfl) (Steps.refl _) (a := a1) (argsL := []) (rest := []) (lenOf pd_1 rfl) rfl (by show 2 * 0 + _ ≤ _; exact Nat.le_of_eq rfl) (hb hby d14_1) (fun _ _ => ⟨rfl, e0, (by decide : 0 + 0 ≤ _), (by decide : 0 + 0 ≤ _)⟩)
  dsimp only [Pt.U, Pt.locs, Pt.cells, Pt.slots] at X2 l2 y2 z2 st2 hQ2
  subst y2 z2
  obtain ⟨rfl, Nq2, e2⟩ := hQ2
  have N3 : Fr n0 L2 := by rw [l2]; exact Fr.app N0 Nq2
  have J4 : ∀ t, Steps p.tables e below (T2.setTop (mkF m 4 #[.val (.ref a1), .val .null, .val (.long v1), .second, .val (.int (2 : Int32)), .val (.int (0 : Int32))] [])) t → Steps p.tables e below (s₁.setTop (entryFrame m #[(.ref a1), .null, (.long v1), (.int (2 : Int32)), (.int (0 : Int32))] 6)) t := fun t k => J1 t (st2.trans k)
  have J5 : ∀ t, Steps p.tables e below (T2.setTop (mkF m 7 #[.val (.ref a1), .val .null, .val (.long v1), .second, .val (.int (2 : Int32)), .val (.int (0 : Int32))] [(.int (2 : Int32)), (.ref a1)])) t → Steps p.tables e below (s₁.setTop (entryFrame m #[(.ref a1), .null, (.long v1), (.int (2 : Int32)), (.int (0 : Int32))] 6)) t := fun t k => J4 t (by
      show Steps p.tables e below (T2.setTop (mkF m 4 #[.val (.ref a1), .val .null, .val (.long v1), .second, .val (.int (2 : Int32)), .val (.int (0 : Int32))] [])) _
      refine XS.aloadN X2.here hx rfl (hb hby d14_4) rfl rfl ?_
      show Steps p.tables e below (T2.setTop (mkF m 5 #[.val (.ref a1), .val .null, .val (.long v1), .second, .val (.int (2 : Int32)), .val (.int (0 : Int32))] [(.ref a1)])) _
      refine XS.iload X2.here hx rfl (hb hby d14_5) rfl ?_
      exact k)
  obtain ⟨T6, h6, X6, e6, W6, st6⟩ := putF X2 hx hZ hown (host := "") (Or.inl (hw _ (List.mem_of_getElem? (i := 121) rfl))) Via.refl e2 F_scale_a1 E_a1 (Or.inr ⟨(hw _ (List.mem_of_getElem? (i := 122) rfl)), rfl, hnm⟩) (hw _ (List.mem_of_getElem? (i := 108) rfl)) (ty := .int) (by decide) rfl rfl (g := (mkF m 7 #[.val (.ref a1), .val .null, .val (.long v1), .second, .val (.int (2 : Int32)), .val (.int (0 : Int32))] [(.int (2 : Int32)), (.ref a1)])) rfl rfl (hb hby d14_7)
  have J7 : ∀ t, Steps p.tables e below (T6.setTop (mkF m 10 #[.val (.ref a1), .val .null, .val (.long v1), .second, .val (.int (2 : Int32)), .val (.int (0 : Int32))] [])) t → Steps p.tables e below (s₁.setTop (entryFrame m #[(.ref a1), .null, (.long v1), (.int (2 : Int32)), (.int (0 : Int32))] 6)) t := fun t k => J5 t (st6 t k)
  have Z8 : n0 ≤ h6.size := Nat.le_trans Z0 (Keep.of_wr W6).1
  have KK9 : Keep h0 h6 [a1] := (Keep.refl h0 [a1]).wr W6 (Or.inl (List.mem_of_getElem? (i := 0) rfl))
  have N10 := Fr.snoc X6 N3 g_a1
  have Fw6 := F_scale_a1.same W6
  have J11 : ∀ t, Steps p.tables e below (T6.setTop (mkF m 13 #[.val (.ref a1), .val .null, .val (.long v1), .second, .val (.int (2 : Int32)), .val (.int (0 : Int32))] [(.int (0 : Int32)), (.ref a1)])) t → Steps p.tables e below (s₁.setTop (entryFrame m #[(.ref a1), .null, (.long v1), (.int (2 : Int32)), (.int (0 : Int32))] 6)) t := fun t k => J7 t (by
      show Steps p.tables e below (T6.setTop (mkF m 10 #[.val (.ref a1), .val .null, .val (.long v1), .second, .val (.int (2 : Int32)), .val (.int (0 : Int32))] [])) _
      refine XS.aloadN X6.here hx rfl (hb hby d14_10) rfl rfl ?_
      show Steps p.tables e below (T6.setTop (mkF m 11 #[.val (.ref a1), .val .null, .val (.long v1), .second, .val (.int (2 : Int32)), .val (.int (0 : Int32))] [(.ref a1)])) _
      refine XS.iload X6.here hx rfl (hb hby d14_11) rfl ?_
      exact k)
  have f12 := F_precision_a1.other W6 (Or.inr (slot_ne (Or.inl (hw _ (List.mem_of_getElem? (i := 124) rfl))) (Or.inr (hw _ (List.mem_of_getElem? (i := 122) rfl))) (by decide) (t := .int) (t' := .int) (by decide) (by decide)))
  have f13 := E_a1.wr W6
  obtain ⟨T14, h14, X14, e14, W14, st14⟩ := putF X6 hx hZ hown (host := "") (Or.inl (hw _ (List.mem_of_getElem? (i := 123) rfl))) Via.refl e6 f12 f13 (Or.inl (hw _ (List.mem_of_getElem? (i := 124) rfl))) (hw _ (List.mem_of_getElem? (i := 108) rfl)) (ty := .int) (by decide) rfl rfl (g := (mkF m 13 #[.val (.ref a1), .val .null, .val (.long v1), .second, .val (.int (2 : Int32)), .val (.int (0 : Int32))] [(.int (0 : Int32)), (.ref a1)])) rfl rfl (hb hby d14_13)
  have J15 : ∀ t, Steps p.tables e below (T14.setTop (mkF m 16 #[.val (.ref a1), .val .null, .val (.long v1), .second, .val (.int (2 : Int32)), .val (.int (0 : Int32))] [])) t → Steps p.tables e below (s₁.setTop (entryFrame m #[(.ref a1), .null, (.long v1), (.int (2 : Int32)), (.int (0 : Int32))] 6)) t := fun t k => J11 t (st14 t k)
  have Z16 : n0 ≤ h14.size := Nat.le_trans Z8 (Keep.of_wr W14).1
  have KK17 : Keep h0 h14 [a1] := KK9.wr W14 (Or.inl (List.mem_of_getElem? (i := 0) rfl))
  have N18 := Fr.snoc X14 N10 g_a1
  have Fw14 := f12.same W14
  have J19 : ∀ t, Steps p.tables e below (T14.setTop (mkF m 18 #[.val (.ref a1), .val .null, .val (.long v1), .second, .val (.int (2 : Int32)), .val (.int (0 : Int32))] [(.long v1), (.ref a1)])) t → Steps p.tables e below (s₁.setTop (entryFrame m #[(.ref a1), .null, (.long v1), (.int (2 : Int32)), (.int (0 : Int32))] 6)) t := fun t k => J15 t (by
      show Steps p.tables e below (T14.setTop (mkF m 16 #[.val (.ref a1), .val .null, .val (.long v1), .second, .val (.int (2 : Int32)), .val (.int (0 : Int32))] [])) _
      refine XS.aloadN X14.here hx rfl (hb hby d14_16) rfl rfl ?_
      show Steps p.tables e below (T14.setTop (mkF m 17 #[.val (.ref a1), .val .null, .val (.long v1), .second, .val (.int (2 : Int32)), .val (.int (0 : Int32))] [(.ref a1)])) _
      refine XS.lloadN X14.here hx rfl (hb hby d14_17) rfl ?_
      exact k)
  have f20 := F_intCompact_a1.other W6 (Or.inr (slot_ne (Or.inr (hw _ (List.mem_of_getElem? (i := 126) rfl))) (Or.inr (hw _ (List.mem_of_getElem? (i := 122) rfl))) (by decide) (t := .long) (t' := .int) (by decide) (by decide)))
  have f21 := f20.other W14 (Or.inr (slot_ne (Or.inr (hw _ (List.mem_of_getElem? (i := 126) rfl))) (Or.inl (hw _ (List.mem_of_getElem? (i := 124) rfl))) (by decide) (t := .long) (t' := .int) (by decide) (by decide)))
  have f22 := f13.wr W14
  obtain ⟨T23, h23, X23, e23, W23, st23⟩ := putF X14 hx hZ hown (host := "") (Or.inl (hw _ (List.mem_of_getElem? (i := 125) rfl))) Via.refl e14 f21 f22 (Or.inr ⟨(hw _ (List.mem_of_getElem? (i := 126) rfl)), rfl, hnm⟩) (hw _ (List.mem_of_getElem? (i := 108) rfl)) (ty := .long) (by decide) rfl rfl (g := (mkF m 18 #[.val (.ref a1), .val .null, .val (.long v1), .second, .val (.int (2 : Int32)), .val (.int (0 : Int32))] [(.long v1), (.ref a1)])) rfl rfl (hb hby d14_18)
  have J24 : ∀ t, Steps p.tables e below (T23.setTop (mkF m 21 #[.val (.ref a1), .val .null, .val (.long v1), .second, .val (.int (2 : Int32)), .val (.int (0 : Int32))] [])) t → Steps p.tables e below (s₁.setTop (entryFrame m #[(.ref a1), .null, (.long v1), (.int (2 : Int32)), (.int (0 : Int32))] 6)) t := fun t k => J19 t (st23 t k)
  have Z25 : n0 ≤ h23.size := Nat.le_trans Z16 (Keep.of_wr W23).1
  have KK26 : Keep h0 h23 [a1] := KK17.wr W23 (Or.inl (List.mem_of_getElem? (i := 0) rfl))
  have N27 := Fr.snoc X23 N18 g_a1
  have Fw23 := f21.same W23
  have J28 : ∀ t, Steps p.tables e below (T23.setTop (mkF m 23 #[.val (.ref a1), .val .null, .val (.long v1), .second, .val (.int (2 : Int32)), .val (.int (0 : Int32))] [.null, (.ref a1)])) t → Steps p.tables e below (s₁.setTop (entryFrame m #[(.ref a1), .null, (.long v1), (.int (2 : Int32)), (.int (0 : Int32))] 6)) t := fun t k => J24 t (by
      show Steps p.tables e below (T23.setTop (mkF m 21 #[.val (.ref a1), .val .null, .val (.long v1), .second, .val (.int (2 : Int32)), .val (.int (0 : Int32))] [])) _
      refine XS.aloadN X23.here hx rfl (hb hby d14_21) rfl rfl ?_
      show Steps p.tables e below (T23.setTop (mkF m 22 #[.val (.ref a1), .val .null, .val (.long v1), .second, .val (.int (2 : Int32)), .val (.int (0 : Int32))] [(.ref a1)])) _
      refine XS.aloadN X23.here hx rfl (hb hby d14_22) rfl rfl ?_
      exact k)
  have f29 := F_intVal_a1.other W6 (Or.inr (slot_ne (Or.inr (hw _ (List.mem_of_getElem? (i := 128) rfl))) (Or.inr (hw _ (List.mem_of_getElem? (i := 122) rfl))) (by decide) (t := (.object "java/math/BigInteger")) (t' := .int) (by decide) (by decide)))
  have f30 := f29.other W14 (Or.inr (slot_ne (Or.inr (hw _ (List.mem_of_getElem? (i := 128) rfl))) (Or.inl (hw _ (List.mem_of_getElem? (i := 124) rfl))) (by decide) (t := (.object "java/math/BigInteger")) (t' := .int) (by decide) (by decide)))
  have f31 := f30.other W23 (Or.inr (slot_ne (Or.inr (hw _ (List.mem_of_getElem? (i := 128) rfl))) (Or.inr (hw _ (List.mem_of_getElem? (i := 126) rfl))) (by decide) (t := (.object "java/math/BigInteger")) (t' := .long) (by decide) (by decide)))
  have f32 := f22.wr W23
  obtain ⟨T33, h33, X33, e33, W33, st33⟩ := putF X23 hx hZ hown (host := "") (Or.inl (hw _ (List.mem_of_getElem? (i := 127) rfl))) Via.refl e23 f31 f32 (Or.inr ⟨(hw _ (List.mem_of_getElem? (i := 128) rfl)), rfl, hnm⟩) (hw _ (List.mem_of_getElem? (i := 108) rfl)) (ty := (.object "java/math/BigInteger")) (by decide) rfl rfl (g := (mkF m 23 #[.val (.ref a1), .val .null, .val (.long v1), .second, .val (.int (2 : Int32)), .val (.int (0 : Int32))] [.null, (.ref a1)])) rfl rfl (hb hby d14_23)
  have J34 : ∀ t, Steps p.tables e below (T33.setTop (mkF m 26 #[.val (.ref a1), .val .null, .val (.long v1), .second, .val (.int (2 : Int32)), .val (.int (0 : Int32))] [])) t → Steps p.tables e below (s₁.setTop (entryFrame m #[(.ref a1), .null, (.long v1), (.int (2 : Int32)), (.int (0 : Int32))] 6)) t := fun t k => J28 t (st33 t k)
  have Z35 : n0 ≤ h33.size := Nat.le_trans Z25 (Keep.of_wr W33).1
  have KK36 : Keep h0 h33 [a1] := KK26.wr W33 (Or.inl (List.mem_of_getElem? (i := 0) rfl))
  have N37 := Fr.snoc X33 N27 g_a1
  have Fw33 := f31.same W33
  obtain ⟨fs, hr, hrun, hended, hW, hsame⟩ := X33.leave (v := none) (fun _ => rfl)
  have f38 := f32.wr W33
  have f39 := Fw23.other W33 (Or.inr (slot_ne (Or.inr (hw _ (List.mem_of_getElem? (i := 126) rfl))) (Or.inr (hw _ (List.mem_of_getElem? (i := 128) rfl))) (by decide) (t := .long) (t' := (.object "java/math/BigInteger")) (by decide) (by decide)))
  have f40 := Fw6.other W14 (Or.inr (slot_ne (Or.inr (hw _ (List.mem_of_getElem? (i := 122) rfl))) (Or.inl (hw _ (List.mem_of_getElem? (i := 124) rfl))) (by decide) (t := .int) (t' := .int) (by decide) (by decide)))
  have f41 := f40.other W23 (Or.inr (slot_ne (Or.inr (hw _ (List.mem_of_getElem? (i := 122) rfl))) (Or.inr (hw _ (List.mem_of_getElem? (i := 126) rfl))) (by decide) (t := .int) (t' := .long) (by decide) (by decide)))
  have f42 := f41.other W33 (Or.inr (slot_ne (Or.inr (hw _ (List.mem_of_getElem? (i := 122) rfl))) (Or.inr (hw _ (List.mem_of_getElem? (i := 128) rfl))) (by decide) (t := .int) (t' := (.object "java/math/BigInteger")) (by decide) (by decide)))
  refine ⟨_, _, J34 _ ?_, hrun, hended, _, _, rfl, ?_, ⟨_, rfl⟩, hW, hsame.mono (by decide) (by decide)⟩
  · show Steps p.tables e below (T33.setTop (mkF m 26 #[.val (.ref a1), .val .null, .val (.long v1), .second, .val (.int (2 : Int32)), .val (.int (0 : Int32))] [])) _
    exact X33.returnOut hx Bd.returns (hb hby d14_26) hr
  · show Q14 Z a1 v1 u1 u2 u3 u4 h0 n0 _ T33.heap _
    rw [e33]
    exact ⟨rfl, N37, KK36, f38, Fw33, f39, f42⟩
theorem d13_0 : decode jdk_17_method_20_code 0 = .ok (.iload_n 2, 1) := by decide +kernel
theorem d13_1 : decode jdk_17_method_20_code 1 = .ok (.ifCond .ne 8, 3) := by decide +kernel
theorem d13_9 : decode jdk_17_method_20_code 9 = .ok (.lload_n 0, 1) := by decide +kernel
theorem d13_10 : decode jdk_17_method_20_code 10 = .ok (.lconst 0, 1) := by decide +kernel
theorem d13_11 : decode jdk_17_method_20_code 11 = .ok (.lcmp, 1) := by decide +kernel
theorem d13_12 : decode jdk_17_method_20_code 12 = .ok (.ifCond .ne 8, 3) := by decide +kernel
theorem d13_20 : decode jdk_17_method_20_code 20 = .ok (.new 3, 3) := by decide +kernel
theorem d13_23 : decode jdk_17_method_20_code 23 = .ok (.dup, 1) := by decide +kernel
theorem d13_24 : decode jdk_17_method_20_code 24 = .ok (.lload_n 0, 1) := by decide +kernel
theorem d13_25 : decode jdk_17_method_20_code 25 = .ok (.ldc2_w 125, 3) := by decide +kernel
theorem d13_28 : decode jdk_17_method_20_code 28 = .ok (.lcmp, 1) := by decide +kernel
theorem d13_29 : decode jdk_17_method_20_code 29 = .ok (.ifCond .ne 9, 3) := by decide +kernel
theorem d13_38 : decode jdk_17_method_20_code 38 = .ok (.aconst_null, 1) := by decide +kernel
theorem d13_39 : decode jdk_17_method_20_code 39 = .ok (.lload_n 0, 1) := by decide +kernel
theorem d13_40 : decode jdk_17_method_20_code 40 = .ok (.iload_n 2, 1) := by decide +kernel
theorem d13_41 : decode jdk_17_method_20_code 41 = .ok (.iconst 0, 1) := by decide +kernel
theorem d13_42 : decode jdk_17_method_20_code 42 = .ok (.invokespecial 243, 3) := by decide +kernel
theorem pd_2 : parseMethodDescriptor "(Ljava/math/BigInteger;JII)V" = some ⟨[(.object "java/math/BigInteger"), .long, .int, .int], none⟩ := by decide +kernel
theorem d13_45 : decode jdk_17_method_20_code 45 = .ok (.areturn, 1) := by decide +kernel
theorem pn_13 : plainName "java/math/BigDecimal" = true := by first | (simp [plainName, overriddenIn]; done) | decide +kernel
theorem ef_13_xx (m : MethodId) (x0 : Int64) (x1 : Int32) : entryFrame m #[(.long x0), (.int x1)] 3 = mkF m 0 #[.val (.long x0), .second, .val (.int x1)] [] := by first | (simp [entryFrame, mkF, argsToLocals, Value.category]; done) | rfl
def Q13 (Z : State) (v1 : Int64) (h0 : Heap) (n0 : Nat) (v : Option Value) (h : Heap) (L : List Loc) : Prop := ∃ (bd : Addr), v = some (.ref bd) ∧ Fr n0 L ∧ Keep h0 h [] ∧ (Exa Z h bd "java/math/BigDecimal") ∧ (Fld Z h bd "java/math/BigDecimal" "intVal" "Ljava/math/BigInteger;" .null) ∧ (Fld Z h bd "java/math/BigDecimal" "intCompact" "J" (.long v1)) ∧ (Fld Z h bd "java/math/BigDecimal" "scale" "I" (.int (2 : Int32))) ∧ (h0.size ≤ bd)
set_option maxRecDepth 65536 in
set_option maxHeartbeats 40000000 in
theorem rm13 (l : Launch) (Z : State) (a0 : Array Value) (hw : ∀ d ∈ tables_1, d.before a0 Z = true) (ws : List Jvm.Cond) (v1 : Int64) (h0 : Heap) (n0 : Nat) (Z0 : n0 ≤ h0.size) (hz1 : ¬ lcmpW v1 (0 : Int64) = (0 : Int32)) (hz2 : ¬ lcmpW v1 (-9223372036854775808 : Int64) = (0 : Int32)) :
    MetFree l (⟨"java/math/BigDecimal", "valueOf", "(JI)Ljava/math/BigDecimal;"⟩ : MethodName) (head1 (Jvm.Cond.code (⟨"java/math/BigDecimal", "valueOf", "(JI)Ljava/math/BigDecimal;"⟩ : MethodName) jdk_17_method_20_code 3 (some (.object "java/math/BigDecimal")) :: ws) ({ frames := 3, cells := 1, slots := 5, locals := 42 } : Room)) (fun a U => a = #[(.long v1), (.int (2 : Int32))] ∧ Z.Warmed39 U.vm ∧ U.heap = h0) (fun _ _ _ _ _ => True) (fun _ U o U' => ∃ v L, o = .returned v ∧ Q13 Z v1 h0 n0 v U'.heap L ∧ FrameEnd U o U' L ({ frames := 3, cells := 1, slots := 5, locals := 42 } : Room).cells ({ frames := 3, cells := 1, slots := 5, locals := 42 } : Room).slots) := by
  refine MetFree.of_bodySF (plainFor_of_name pn_13) hisR ?_
  intro p e s m args below meth c s₁ Bd hml0 hP hK
  obtain ⟨rfl, hZ, hh⟩ := hP
  have hx := Bd.exec
  have hby := Bd.bytes
  have hml : c.maxLocals = 3 := hml0
  have hown : s.vm.findClass "java/math/BigDecimal" = some m.cls := findClass_of_methodNamed Bd.named
  have hnm := (name_of_methodNamed Bd.named Bd.method).1
  have X0 : Stand p l e ({ frames := 3, cells := 1, slots := 5, locals := 42 } : Room) s m #[(.long v1), (.int (2 : Int32))] below meth c s₁ [] 0 0 := Stand.of_body Bd
  have e0 : s₁.heap = h0 := by rw [← hh, Bd.state]; rfl
  have N0 := Fr.nil n0
  have pre0 : ∀ t, Steps p.tables e below (s₁.setTop (mkF m 0 #[.val (.long v1), .second, .val (.int (2 : Int32))] [])) t → Steps p.tables e below (s₁.setTop (entryFrame m #[(.long v1), (.int (2 : Int32))] 3)) t := fun t k => castTop (ef_13_xx m v1 (2 : Int32)) k
  have J1 : ∀ t, Steps p.tables e below (s₁.setTop (mkF m 20 #[.val (.long v1), .second, .val (.int (2 : Int32))] [])) t → Steps p.tables e below (s₁.setTop (entryFrame m #[(.long v1), (.int (2 : Int32))] 3)) t := fun t k => pre0 t (by
      show Steps p.tables e below (s₁.setTop (mkF m 0 #[.val (.long v1), .second, .val (.int (2 : Int32))] [])) _
      refine XS.iloadN X0.here hx rfl (hb hby d13_0) rfl ?_
      show Steps p.tables e below (s₁.setTop (mkF m 1 #[.val (.long v1), .second, .val (.int (2 : Int32))] [(.int (2 : Int32))])) _
      refine XS.ifYes X0.here hx rfl (pc0 := 1) (pc' := 9) rfl (hb hby d13_1) rfl ((if0 _ _).trans (feq (by decide)).2) (by decide) (by decide) ?_
      show Steps p.tables e below (s₁.setTop (mkF m 9 #[.val (.long v1), .second, .val (.int (2 : Int32))] [])) _
      refine XS.lloadN X0.here hx rfl (hb hby d13_9) rfl ?_
      show Steps p.tables e below (s₁.setTop (mkF m 10 #[.val (.long v1), .second, .val (.int (2 : Int32))] [(.long v1)])) _
      refine XS.lconst X0.here hx rfl (hb hby d13_10) ?_
      show Steps p.tables e below (s₁.setTop (mkF m 11 #[.val (.long v1), .second, .val (.int (2 : Int32))] [(.long (0 : Int64)), (.long v1)])) _
      refine XS.lcmp X0.here hx rfl (hb hby d13_11) rfl ?_
      show Steps p.tables e below (s₁.setTop (mkF m 12 #[.val (.long v1), .second, .val (.int (2 : Int32))] [(.int (lcmpW v1 (0 : Int64)))])) _
      refine XS.ifYes X0.here hx rfl (pc0 := 12) (pc' := 20) rfl (hb hby d13_12) rfl ((if0 _ _).trans (feq hz1).2) (by decide) (by decide) ?_
      exact k)
  obtain ⟨T2, h2, X2, e2, E2, A2, D2, U2, st2⟩ := newO X0 hx hZ hown (hw _ (List.mem_of_getElem? (i := 107) rfl)) (hw _ (List.mem_of_getElem? (i := 108) rfl)) (hw _ (List.mem_of_getElem? (i := 105) rfl)) e0 (g := (mkF m 20 #[.val (.long v1), .second, .val (.int (2 : Int32))] [])) rfl (hb hby d13_20) (by decide) (by decide)
  obtain ⟨b2, g2⟩ : ∃ z, z = h0.size := ⟨_, rfl⟩
  rw [← g2] at A2 D2 U2 st2
  have J3 : ∀ t, Steps p.tables e below (T2.setTop (mkF m 23 #[.val (.long v1), .second, .val (.int (2 : Int32))] [(.ref b2)])) t → Steps p.tables e below (s₁.setTop (entryFrame m #[(.long v1), (.int (2 : Int32))] 3)) t := fun t k => J1 t (st2 t k)
  have ge4 : n0 ≤ b2 := Nat.le_trans Z0 (Nat.le_of_eq g2.symm)
  have sz5 : h0.size ≤ b2 := Nat.le_trans (Keep.refl h0 []).1 (Nat.le_of_eq g2.symm)
  have Z6 : n0 ≤ h2.size := Nat.le_trans Z0 E2.1
  have KK7 : Keep h0 h2 [] := (Keep.refl h0 []).ext E2
  have F2_scale : Fld Z h2 b2 "java/math/BigDecimal" "scale" "I" (.int (0 : Int32)) := D2 (Or.inr (hw _ (List.mem_of_getElem? (i := 122) rfl))) (ty := .int) (by decide)
  have F2_precision : Fld Z h2 b2 "java/math/BigDecimal" "precision" "I" (.int (0 : Int32)) := D2 (Or.inl (hw _ (List.mem_of_getElem? (i := 124) rfl))) (ty := .int) (by decide)
  have F2_intCompact : Fld Z h2 b2 "java/math/BigDecimal" "intCompact" "J" (.long (0 : Int64)) := D2 (Or.inr (hw _ (List.mem_of_getElem? (i := 126) rfl))) (ty := .long) (by decide)
  have F2_intVal : Fld Z h2 b2 "java/math/BigDecimal" "intVal" "Ljava/math/BigInteger;" .null := D2 (Or.inr (hw _ (List.mem_of_getElem? (i := 128) rfl))) (ty := (.object "java/math/BigInteger")) (by decide)
  have J8 : ∀ t, Steps p.tables e below (T2.setTop (mkF m 42 #[.val (.long v1), .second, .val (.int (2 : Int32))] [(.int (0 : Int32)), (.int (2 : Int32)), (.long v1), .null, (.ref b2), (.ref b2)])) t → Steps p.tables e below (s₁.setTop (entryFrame m #[(.long v1), (.int (2 : Int32))] 3)) t := fun t k => J3 t (by
      show Steps p.tables e below (T2.setTop (mkF m 23 #[.val (.long v1), .second, .val (.int (2 : Int32))] [(.ref b2)])) _
      refine XS.dup X2.here hx rfl (hb hby d13_23) rfl rfl ?_
      show Steps p.tables e below (T2.setTop (mkF m 24 #[.val (.long v1), .second, .val (.int (2 : Int32))] [(.ref b2), (.ref b2)])) _
      refine XS.lloadN X2.here hx rfl (hb hby d13_24) rfl ?_
      show Steps p.tables e below (T2.setTop (mkF m 25 #[.val (.long v1), .second, .val (.int (2 : Int32))] [(.long v1), (.ref b2), (.ref b2)])) _
      refine X2.ldc2Long hx hown (mvT hZ (hw _ (List.mem_of_getElem? (i := 109) rfl))) (g := (mkF m 25 #[.val (.long v1), .second, .val (.int (2 : Int32))] [(.long v1), (.ref b2), (.ref b2)])) rfl (hb hby d13_25) _ ?_
      show Steps p.tables e below (T2.setTop (mkF m 28 #[.val (.long v1), .second, .val (.int (2 : Int32))] [(.long (-9223372036854775808 : Int64)), (.long v1), (.ref b2), (.ref b2)])) _
      refine XS.lcmp X2.here hx rfl (hb hby d13_28) rfl ?_
      show Steps p.tables e below (T2.setTop (mkF m 29 #[.val (.long v1), .second, .val (.int (2 : Int32))] [(.int (lcmpW v1 (-9223372036854775808 : Int64))), (.ref b2), (.ref b2)])) _
      refine XS.ifYes X2.here hx rfl (pc0 := 29) (pc' := 38) rfl (hb hby d13_29) rfl ((if0 _ _).trans (feq hz2).2) (by decide) (by decide) ?_
      show Steps p.tables e below (T2.setTop (mkF m 38 #[.val (.long v1), .second, .val (.int (2 : Int32))] [(.ref b2), (.ref b2)])) _
      refine XS.aconstNull X2.here hx rfl (hb hby d13_38) ?_
      show Steps p.tables e below (T2.setTop (mkF m 39 #[.val (.long v1), .second, .val (.int (2 : Int32))] [.null, (.ref b2), (.ref b2)])) _
      refine XS.lloadN X2.here hx rfl (hb hby d13_39) rfl ?_
      show Steps p.tables e below (T2.setTop (mkF m 40 #[.val (.long v1), .second, .val (.int (2 : Int32))] [(.long v1), .null, (.ref b2), (.ref b2)])) _
      refine XS.iloadN X2.here hx rfl (hb hby d13_40) rfl ?_
      show Steps p.tables e below (T2.setTop (mkF m 41 #[.val (.long v1), .second, .val (.int (2 : Int32))] [(.int (2 : Int32)), (.long v1), .null, (.ref b2), (.ref b2)])) _
      refine XS.iconst X2.here hx rfl (hb hby d13_41) ?_
      exact k)
  obtain ⟨_, _, ⟨T9, L9, k9, n9⟩, -, X9, ⟨Lc9, hQ9, l9, y9, z9⟩, st9⟩ := X2.specialBack hx (y := (⟨"java/math/BigDecimal", "<init>", "(Ljava/math/BigInteger;JII)V"⟩ : MethodName)) rfl hown (mvT hZ (hw _ (List.mem_of_getElem? (i := 110) rfl))) (mvT hZ (hw _ (List.mem_of_getElem? (i := 111) rfl))) (mvT hZ (hw _ (List.mem_of_getElem? (i := 113) rfl))) (by decide) (backOf (W := 1) (rm14 l Z a0 hw [] b2 v1 .null (.long (0 : Int64)) (.int (0 : Int32)) (.int (0 : Int32)) h2 n0 Z6 A2 ge4 F2_intVal F2_intCompact F2_scale F2_precision) hZ (hw _ (List.mem_of_getElem? (i := 113) rfl)) (hw _ (List.mem_of_getElem? (i := 105) rfl)) (by decide) (by decide)) (g := (mkF m 42 #[.val (.long v1), .second, .val (.int (2 : Int32))] [(.int (0 : Int32)), (.int (2 : Int32)), (.long v1), .null, (.ref b2), (.ref b2)])) rfl (by rw [hml]; rfl) (Steps.refl _) (a := b2) (argsL := [.null, (.long v1), (.int (2 : Int32)), (.int (0 : Int32))]) (rest := [(.ref b2)]) (lenOf pd_2 rfl) rfl (by show 2 * 0 + _ ≤ _; exact Nat.le_of_eq rfl) (hb hby d13_42) (fun _ _ => ⟨rfl, e2, (by decide : 1 + 0 ≤ _), (by decide : 5 + 0 ≤ _)⟩)
  dsimp only [Pt.U, Pt.locs, Pt.cells, Pt.slots] at X9 l9 y9 z9 st9 hQ9
  subst y9 z9
  obtain ⟨rfl, Nq9, K9, p9_1, p9_2, p9_3, p9_4⟩ := hQ9
  have N10 : Fr n0 L9 := by rw [l9]; exact Fr.app N0 Nq9
  have J11 : ∀ t, Steps p.tables e below (T9.setTop (mkF m 45 #[.val (.long v1), .second, .val (.int (2 : Int32))] [(.ref b2)])) t → Steps p.tables e below (s₁.setTop (entryFrame m #[(.long v1), (.int (2 : Int32))] 3)) t := fun t k => J8 t (st9.trans k)
  have Z12 : n0 ≤ T9.heap.size := Nat.le_trans Z6 K9.1
  have KK13 : Keep h0 T9.heap [] := KK7.trans K9 (allS (Or.inr sz5) all0)
  obtain ⟨fs, hr, hrun, hended, hW, hsame⟩ := X9.leave (v := some (.ref b2)) (fun h => by rw [Bd.returns] at h; cases h)
  refine ⟨_, _, J11 _ ?_, hrun, hended, _, _, rfl, ?_, ⟨_, rfl⟩, hW, hsame.mono (by decide) (by decide)⟩
  · show Steps p.tables e below (T9.setTop (mkF m 45 #[.val (.long v1), .second, .val (.int (2 : Int32))] [(.ref b2)])) _
    jvm_step X9.here [X9.here.top, hx, (hb hby d13_45), X9.method', Bd.returns, Value.isRef, FieldType.isReference]
    first | (intro acts; rw [hr _ acts rfl rfl rfl]) | rw [hr _ _ rfl rfl rfl]
    exact Steps.refl _
  · show Q13 Z v1 h0 n0 _ T9.heap _
    exact ⟨b2, rfl, N10, KK13, p9_1, p9_2, p9_3, p9_4, sz5⟩
theorem d12_0 : decode prog_84_method_11_code 0 = .ok (.aload_n 0, 1) := by decide +kernel
theorem d12_1 : decode prog_84_method_11_code 1 = .ok (.getfield 13, 3) := by decide +kernel
theorem d12_4 : decode prog_84_method_11_code 4 = .ok (.ifnonnull 14, 3) := by decide +kernel
theorem d12_7 : decode prog_84_method_11_code 7 = .ok (.aload_n 0, 1) := by decide +kernel
theorem d12_8 : decode prog_84_method_11_code 8 = .ok (.getfield 7, 3) := by decide +kernel
theorem d12_11 : decode prog_84_method_11_code 11 = .ok (.iconst 2, 1) := by decide +kernel
theorem d12_12 : decode prog_84_method_11_code 12 = .ok (.invokestatic 96, 3) := by decide +kernel
theorem pd_3 : parseMethodDescriptor "(JI)Ljava/math/BigDecimal;" = some ⟨[.long, .int], some (.object "java/math/BigDecimal")⟩ := by decide +kernel
theorem d12_15 : decode prog_84_method_11_code 15 = .ok (.goto 7, 3) := by decide +kernel
theorem d12_22 : decode prog_84_method_11_code 22 = .ok (.areturn, 1) := by decide +kernel
theorem pn_12 : plainName "com/example/tranche/tranche/model/Amount" = true := by first | (simp [plainName, overriddenIn]; done) | decide +kernel
theorem ef_12_x (m : MethodId) (x0 : Addr) : entryFrame m #[(.ref x0)] 1 = mkF m 0 #[.val (.ref x0)] [] := by first | (simp [entryFrame, mkF, argsToLocals, Value.category]; done) | rfl
def Q12 (Z : State) (a1 : Addr) (v1 : Int64) (h0 : Heap) (n0 : Nat) (v : Option Value) (h : Heap) (L : List Loc) : Prop := ∃ (bd : Addr), v = some (.ref bd) ∧ Fr n0 L ∧ Keep h0 h [] ∧ (Exa Z h bd "java/math/BigDecimal") ∧ (Fld Z h bd "java/math/BigDecimal" "intVal" "Ljava/math/BigInteger;" .null) ∧ (Fld Z h bd "java/math/BigDecimal" "intCompact" "J" (.long v1)) ∧ (Fld Z h bd "java/math/BigDecimal" "scale" "I" (.int (2 : Int32))) ∧ (h0.size ≤ bd)
set_option maxRecDepth 65536 in
set_option maxHeartbeats 40000000 in
theorem rm12 (l : Launch) (Z : State) (a0 : Array Value) (hw : ∀ d ∈ tables_1, d.before a0 Z = true) (ws : List Jvm.Cond) (a1 : Addr) (v1 : Int64) (h0 : Heap) (n0 : Nat) (Z0 : n0 ≤ h0.size) (E_a1 : Exa Z h0 a1 "com/example/tranche/tranche/model/Amount") (F_cents_a1 : Fld Z h0 a1 "com/example/tranche/tranche/model/Amount" "cents" "J" (.long v1)) (F_wide_a1 : Fld Z h0 a1 "com/example/tranche/tranche/model/Amount" "wide" "Ljava/math/BigDecimal;" .null) (hz1 : ¬ lcmpW v1 (0 : Int64) = (0 : Int32)) (hz2 : ¬ lcmpW v1 (-9223372036854775808 : Int64) = (0 : Int32)) :
    MetFree l (⟨"com/example/tranche/tranche/model/Amount", "toBigDecimal", "()Ljava/math/BigDecimal;"⟩ : MethodName) (head1 (Jvm.Cond.code (⟨"com/example/tranche/tranche/model/Amount", "toBigDecimal", "()Ljava/math/BigDecimal;"⟩ : MethodName) prog_84_method_11_code 1 (some (.object "java/math/BigDecimal")) :: ws) ({ frames := 4, cells := 1, slots := 5, locals := 56 } : Room)) (fun a U => a = #[(.ref a1)] ∧ Z.Warmed39 U.vm ∧ U.heap = h0) (fun _ _ _ _ _ => True) (fun _ U o U' => ∃ v L, o = .returned v ∧ Q12 Z a1 v1 h0 n0 v U'.heap L ∧ FrameEnd U o U' L ({ frames := 4, cells := 1, slots := 5, locals := 56 } : Room).cells ({ frames := 4, cells := 1, slots := 5, locals := 56 } : Room).slots) := by
  refine MetFree.of_bodySF (plainFor_of_name pn_12) hisR ?_
  intro p e s m args below meth c s₁ Bd hml0 hP hK
  obtain ⟨rfl, hZ, hh⟩ := hP
  have hx := Bd.exec
  have hby := Bd.bytes
  have hml : c.maxLocals = 1 := hml0
  have hown : s.vm.findClass "com/example/tranche/tranche/model/Amount" = some m.cls := findClass_of_methodNamed Bd.named
  have hnm := (name_of_methodNamed Bd.named Bd.method).1
  have X0 : Stand p l e ({ frames := 4, cells := 1, slots := 5, locals := 56 } : Room) s m #[(.ref a1)] below meth c s₁ [] 0 0 := Stand.of_body Bd
  have e0 : s₁.heap = h0 := by rw [← hh, Bd.state]; rfl
  have N0 := Fr.nil n0
  have pre0 : ∀ t, Steps p.tables e below (s₁.setTop (mkF m 0 #[.val (.ref a1)] [])) t → Steps p.tables e below (s₁.setTop (entryFrame m #[(.ref a1)] 1)) t := fun t k => castTop (ef_12_x m a1) k
  have J1 : ∀ t, Steps p.tables e below (s₁.setTop (mkF m 1 #[.val (.ref a1)] [(.ref a1)])) t → Steps p.tables e below (s₁.setTop (entryFrame m #[(.ref a1)] 1)) t := fun t k => pre0 t (by
      show Steps p.tables e below (s₁.setTop (mkF m 0 #[.val (.ref a1)] [])) _
      refine XS.aloadN X0.here hx rfl (hb hby d12_0) rfl rfl ?_
      exact k)
  obtain ⟨T2, X2, e2, st2⟩ := getF X0 hx hZ hown (host := "") (Or.inl (hw _ (List.mem_of_getElem? (i := 17) rfl))) Via.refl e0 F_wide_a1 (g := (mkF m 1 #[.val (.ref a1)] [(.ref a1)])) rfl rfl (hb hby d12_1)
  have J3 : ∀ t, Steps p.tables e below (T2.setTop (mkF m 4 #[.val (.ref a1)] [.null])) t → Steps p.tables e below (s₁.setTop (entryFrame m #[(.ref a1)] 1)) t := fun t k => J1 t (st2 t k)
  have J4 : ∀ t, Steps p.tables e below (T2.setTop (mkF m 8 #[.val (.ref a1)] [(.ref a1)])) t → Steps p.tables e below (s₁.setTop (entryFrame m #[(.ref a1)] 1)) t := fun t k => J3 t (by
      show Steps p.tables e below (T2.setTop (mkF m 4 #[.val (.ref a1)] [.null])) _
      refine XS.ifnonnullNo X2.here hx rfl (hb hby d12_4) rfl ?_
      show Steps p.tables e below (T2.setTop (mkF m 7 #[.val (.ref a1)] [])) _
      refine XS.aloadN X2.here hx rfl (hb hby d12_7) rfl rfl ?_
      exact k)
  obtain ⟨T5, X5, e5, st5⟩ := getF X2 hx hZ hown (host := "") (Or.inl (hw _ (List.mem_of_getElem? (i := 15) rfl))) Via.refl e2 F_cents_a1 (g := (mkF m 8 #[.val (.ref a1)] [(.ref a1)])) rfl rfl (hb hby d12_8)
  have J6 : ∀ t, Steps p.tables e below (T5.setTop (mkF m 11 #[.val (.ref a1)] [(.long v1)])) t → Steps p.tables e below (s₁.setTop (entryFrame m #[(.ref a1)] 1)) t := fun t k => J4 t (st5 t k)
  have J7 : ∀ t, Steps p.tables e below (T5.setTop (mkF m 12 #[.val (.ref a1)] [(.int (2 : Int32)), (.long v1)])) t → Steps p.tables e below (s₁.setTop (entryFrame m #[(.ref a1)] 1)) t := fun t k => J6 t (by
      show Steps p.tables e below (T5.setTop (mkF m 11 #[.val (.ref a1)] [(.long v1)])) _
      refine XS.iconst X5.here hx rfl (hb hby d12_11) ?_
      exact k)
  obtain ⟨_, _, ⟨T8, L8, k8, n8⟩, -, X8, ⟨Lc8, hQ8, l8, y8, z8⟩, st8⟩ := Jvm.LawKit.callS X5 hx (y := (⟨"java/math/BigDecimal", "valueOf", "(JI)Ljava/math/BigDecimal;"⟩ : MethodName)) hown (mvT hZ (hw _ (List.mem_of_getElem? (i := 103) rfl))) (mvT hZ (hw _ (List.mem_of_getElem? (i := 104) rfl))) (mvT hZ (hw _ (List.mem_of_getElem? (i := 105) rfl))) (mvT hZ (hw _ (List.mem_of_getElem? (i := 106) rfl))) (by decide) (backOf (W := 0) (rm13 l Z a0 hw [] v1 h0 n0 Z0 (by assumption) (by assumption)) hZ (hw _ (List.mem_of_getElem? (i := 106) rfl)) (hw _ (List.mem_of_getElem? (i := 105) rfl)) (by decide) (by decide)) (g := (mkF m 12 #[.val (.ref a1)] [(.int (2 : Int32)), (.long v1)])) rfl (by rw [hml]; rfl) (argsL := [(.long v1), (.int (2 : Int32))]) (rest := []) (lenOf pd_3 rfl) rfl (by show 2 * 0 + _ ≤ _; exact Nat.le_of_eq rfl) (hb hby d12_12) (fun _ _ => ⟨rfl, e5, (by decide : 0 + 1 ≤ _), (by decide : 0 + 5 ≤ _)⟩)
  dsimp only [Pt.U, Pt.locs, Pt.cells, Pt.slots] at X8 l8 y8 z8 st8 hQ8
  subst y8 z8
  obtain ⟨bd_8, rfl, Nq8, K8, p8_1, p8_2, p8_3, p8_4, p8_5⟩ := hQ8
  have N9 : Fr n0 L8 := by rw [l8]; exact Fr.app N0 Nq8
  have J10 : ∀ t, Steps p.tables e below (T8.setTop (mkF m 15 #[.val (.ref a1)] [(.ref bd_8)])) t → Steps p.tables e below (s₁.setTop (entryFrame m #[(.ref a1)] 1)) t := fun t k => J7 t (st8 t k)
  have Z11 : n0 ≤ T8.heap.size := Nat.le_trans Z0 K8.1
  have KK12 : Keep h0 T8.heap [] := (Keep.refl h0 []).trans K8 all0
  have J13 : ∀ t, Steps p.tables e below (T8.setTop (mkF m 22 #[.val (.ref a1)] [(.ref bd_8)])) t → Steps p.tables e below (s₁.setTop (entryFrame m #[(.ref a1)] 1)) t := fun t k => J10 t (by
      show Steps p.tables e below (T8.setTop (mkF m 15 #[.val (.ref a1)] [(.ref bd_8)])) _
      refine XS.goto X8.here hx rfl (pc0 := 15) (pc' := 22) rfl (hb hby d12_15) (by decide) (by decide) ?_
      exact k)
  obtain ⟨fs, hr, hrun, hended, hW, hsame⟩ := X8.leave (v := some (.ref bd_8)) (fun h => by rw [Bd.returns] at h; cases h)
  refine ⟨_, _, J13 _ ?_, hrun, hended, _, _, rfl, ?_, ⟨_, rfl⟩, hW, hsame.mono (by decide) (by decide)⟩
  · show Steps p.tables e below (T8.setTop (mkF m 22 #[.val (.ref a1)] [(.ref bd_8)])) _
    jvm_step X8.here [X8.here.top, hx, (hb hby d12_22), X8.method', Bd.returns, Value.isRef, FieldType.isReference]
    first | (intro acts; rw [hr _ acts rfl rfl rfl]) | rw [hr _ _ rfl rfl rfl]
    exact Steps.refl _
  · show Q12 Z a1 v1 h0 n0 _ T8.heap _
    exact ⟨bd_8, rfl, N9, KK12, p8_1, p8_2, p8_3, p8_4, (Nat.le_trans (Keep.refl h0 []).1 p8_5)⟩
theorem d21_0 : decode jdk_2097_method_30_code 0 = .ok (.aload_n 0, 1) := by decide +kernel
theorem d21_1 : decode jdk_2097_method_30_code 1 = .ok (.invokespecial 3, 3) := by decide +kernel
theorem d21_4 : decode jdk_2097_method_30_code 4 = .ok (.lload_n 1, 1) := by decide +kernel
theorem d21_5 : decode jdk_2097_method_30_code 5 = .ok (.lconst 0, 1) := by decide +kernel
theorem d21_6 : decode jdk_2097_method_30_code 6 = .ok (.lcmp, 1) := by decide +kernel
theorem d21_7 : decode jdk_2097_method_30_code 7 = .ok (.ifCond .ge 14, 3) := by decide +kernel
theorem d21_21 : decode jdk_2097_method_30_code 21 = .ok (.aload_n 0, 1) := by decide +kernel
theorem d21_22 : decode jdk_2097_method_30_code 22 = .ok (.iconst 1, 1) := by decide +kernel
theorem d21_23 : decode jdk_2097_method_30_code 23 = .ok (.putfield 32, 3) := by decide +kernel
theorem d21_26 : decode jdk_2097_method_30_code 26 = .ok (.lload_n 1, 1) := by decide +kernel
theorem d21_27 : decode jdk_2097_method_30_code 27 = .ok (.bipush 32, 2) := by decide +kernel
theorem d21_29 : decode jdk_2097_method_30_code 29 = .ok (.lushr, 1) := by decide +kernel
theorem d21_30 : decode jdk_2097_method_30_code 30 = .ok (.l2i, 1) := by decide +kernel
theorem d21_31 : decode jdk_2097_method_30_code 31 = .ok (.istore_n 3, 1) := by decide +kernel
theorem d21_32 : decode jdk_2097_method_30_code 32 = .ok (.iload_n 3, 1) := by decide +kernel
theorem d21_33 : decode jdk_2097_method_30_code 33 = .ok (.ifCond .ne 21, 3) := by decide +kernel
theorem d21_54 : decode jdk_2097_method_30_code 54 = .ok (.aload_n 0, 1) := by decide +kernel
theorem d21_55 : decode jdk_2097_method_30_code 55 = .ok (.iconst 2, 1) := by decide +kernel
theorem d21_56 : decode jdk_2097_method_30_code 56 = .ok (.newarray .int, 2) := by decide +kernel
theorem d21_58 : decode jdk_2097_method_30_code 58 = .ok (.putfield 28, 3) := by decide +kernel
theorem d21_61 : decode jdk_2097_method_30_code 61 = .ok (.aload_n 0, 1) := by decide +kernel
theorem d21_62 : decode jdk_2097_method_30_code 62 = .ok (.getfield 28, 3) := by decide +kernel
theorem d21_65 : decode jdk_2097_method_30_code 65 = .ok (.iconst 0, 1) := by decide +kernel
theorem d21_66 : decode jdk_2097_method_30_code 66 = .ok (.iload_n 3, 1) := by decide +kernel
theorem d21_67 : decode jdk_2097_method_30_code 67 = .ok (.iastore, 1) := by decide +kernel
theorem d21_68 : decode jdk_2097_method_30_code 68 = .ok (.aload_n 0, 1) := by decide +kernel
theorem d21_69 : decode jdk_2097_method_30_code 69 = .ok (.getfield 28, 3) := by decide +kernel
theorem d21_72 : decode jdk_2097_method_30_code 72 = .ok (.iconst 1, 1) := by decide +kernel
theorem d21_73 : decode jdk_2097_method_30_code 73 = .ok (.lload_n 1, 1) := by decide +kernel
theorem d21_74 : decode jdk_2097_method_30_code 74 = .ok (.l2i, 1) := by decide +kernel
theorem d21_75 : decode jdk_2097_method_30_code 75 = .ok (.iastore, 1) := by decide +kernel
theorem d21_76 : decode jdk_2097_method_30_code 76 = .ok (.return_, 1) := by decide +kernel
theorem pn_21 : plainName "java/math/BigInteger" = true := by first | (simp [plainName, overriddenIn]; done) | decide +kernel
theorem ef_21_xx (m : MethodId) (x0 : Addr) (x1 : Int64) : entryFrame m #[(.ref x0), (.long x1)] 4 = mkF m 0 #[.val (.ref x0), .val (.long x1), .second, .unset] [] := by first | (simp [entryFrame, mkF, argsToLocals, Value.category]; done) | rfl
def Q21 (Z : State) (a1 : Addr) (u1 : Value) (u2 : Value) (h0 : Heap) (n0 : Nat) (v : Option Value) (h : Heap) (L : List Loc) : Prop := ∃ (mg : Addr) (mcl : Cell), v = none ∧ Fr n0 L ∧ Keep h0 h [a1] ∧ (Exa Z h a1 "java/math/BigInteger") ∧ (Fld Z h a1 "java/math/BigInteger" "signum" "I" (.int (1 : Int32))) ∧ (Fld Z h a1 "java/math/BigInteger" "mag" "[I" (.ref mg)) ∧ (Fld Z h a1 "java/math/BigInteger" "bitLengthPlusOne" "I" (.int (0 : Int32))) ∧ (Arr Z h mg mcl .int) ∧ (mcl.slots.size = 2) ∧ (mcl.slots[0]? = some (.int (2147483647 : Int32))) ∧ (mcl.slots[1]? = some (.int (-1 : Int32))) ∧ (h0.size ≤ mg)
set_option maxRecDepth 65536 in
set_option maxHeartbeats 40000000 in
theorem rm21 (l : Launch) (Z : State) (a0 : Array Value) (hw : ∀ d ∈ tables_1, d.before a0 Z = true) (ws : List Jvm.Cond) (a1 : Addr) (u1 : Value) (u2 : Value) (h0 : Heap) (n0 : Nat) (Z0 : n0 ≤ h0.size) (E_a1 : Exa Z h0 a1 "java/math/BigInteger") (g_a1 : n0 ≤ a1) (F_signum_a1 : Fld Z h0 a1 "java/math/BigInteger" "signum" "I" u1) (F_mag_a1 : Fld Z h0 a1 "java/math/BigInteger" "mag" "[I" u2) (F_bitLengthPlusOne_a1 : Fld Z h0 a1 "java/math/BigInteger" "bitLengthPlusOne" "I" (.int (0 : Int32))) :
    MetFree l (⟨"java/math/BigInteger", "<init>", "(J)V"⟩ : MethodName) (head1 (Jvm.Cond.code (⟨"java/math/BigInteger", "<init>", "(J)V"⟩ : MethodName) jdk_2097_method_30_code 4 none :: ws) ({ frames := 2, cells := 1, slots := 2, locals := 24 } : Room)) (fun a U => a = #[(.ref a1), (.long (9223372036854775807 : Int64))] ∧ Z.Warmed39 U.vm ∧ U.heap = h0) (fun _ _ _ _ _ => True) (fun _ U o U' => ∃ v L, o = .returned v ∧ Q21 Z a1 u1 u2 h0 n0 v U'.heap L ∧ FrameEnd U o U' L ({ frames := 2, cells := 1, slots := 2, locals := 24 } : Room).cells ({ frames := 2, cells := 1, slots := 2, locals := 24 } : Room).slots) := by
  refine MetFree.of_bodySF (plainFor_of_name pn_21) hisR ?_
  intro p e s m args below meth c s₁ Bd hml0 hP hK
  obtain ⟨rfl, hZ, hh⟩ := hP
  have hx := Bd.exec
  have hby := Bd.bytes
  have hml : c.maxLocals = 4 := hml0
  have hown : s.vm.findClass "java/math/BigInteger" = some m.cls := findClass_of_methodNamed Bd.named
  have hnm := (name_of_methodNamed Bd.named Bd.method).1
  have X0 : Stand p l e ({ frames := 2, cells := 1, slots := 2, locals := 24 } : Room) s m #[(.ref a1), (.long (9223372036854775807 : Int64))] below meth c s₁ [] 0 0 := Stand.of_body Bd
  have e0 : s₁.heap = h0 := by rw [← hh, Bd.state]; rfl
  have N0 := Fr.nil n0
  have pre0 : ∀ t, Steps p.tables e below (s₁.setTop (mkF m 0 #[.val (.ref a1), .val (.long (9223372036854775807 : Int64)), .second, .unset] [])) t → Steps p.tables e below (s₁.setTop (entryFrame m #[(.ref a1), (.long (9223372036854775807 : Int64))] 4)) t := fun t k => castTop (ef_21_xx m a1 (9223372036854775807 : Int64)) k
  have J1 : ∀ t, Steps p.tables e below (s₁.setTop (mkF m 1 #[.val (.ref a1), .val (.long (9223372036854775807 : Int64)), .second, .unset] [(.ref a1)])) t → Steps p.tables e below (s₁.setTop (entryFrame m #[(.ref a1), (.long (9223372036854775807 : Int64))] 4)) t := fun t k => pre0 t (by
      show Steps p.tables e below (s₁.setTop (mkF m 0 #[.val (.ref a1), .val (.long (9223372036854775807 : Int64)), .second, .unset] [])) _
      refine XS.aloadN X0.here hx rfl (hb hby d21_0) rfl rfl ?_
      exact k)
  obtain ⟨_, _, ⟨T2, L2, k2, n2⟩, -, X2, ⟨Lc2, hQ2, l2, y2, z2⟩, st2⟩ := X0.specialBack hx (y := (⟨"java/lang/Number", "<init>", "()V"⟩ : MethodName)) rfl hown (mvT hZ (hw _ (List.mem_of_getElem? (i := 154) rfl))) (mvT hZ (hw _ (List.mem_of_getElem? (i := 115) rfl))) (mvT hZ (hw _ (List.mem_of_getElem? (i := 119) rfl))) (by decide) (backOf (W := 0) (rm15 l Z a0 hw [] a1 h0 n0 Z0 ) hZ (hw _ (List.mem_of_getElem? (i := 119) rfl)) (hw _ (List.mem_of_getElem? (i := 118) rfl)) (by decide) (by decide)) (g := (mkF m 1 #[.val (.ref a1), .val (.long (9223372036854775807 : Int64)), .second, .unset] [(.ref a1)])) rfl (by rw [hml]; rfl) (Steps.refl _) (a := a1) (argsL := []) (rest := []) (lenOf pd_1 rfl) rfl (by show 2 * 0 + _ ≤ _; exact Nat.le_of_eq rfl) (hb hby d21_1) (fun _ _ => ⟨rfl, e0, (by decide : 0 + 0 ≤ _), (by decide : 0 + 0 ≤ _)⟩)
  dsimp only [Pt.U, Pt.locs, Pt.cells, Pt.slots] at X2 l2 y2 z2 st2 hQ2
  subst y2 z2
  obtain ⟨rfl, Nq2, e2⟩ := hQ2
  have N3 : Fr n0 L2 := by rw [l2]; exact Fr.app N0 Nq2
  have J4 : ∀ t, Steps p.tables e below (T2.setTop (mkF m 4 #[.val (.ref a1), .val (.long (9223372036854775807 : Int64)), .second, .unset] [])) t → Steps p.tables e below (s₁.setTop (entryFrame m #[(.ref a1), (.long (9223372036854775807 : Int64))] 4)) t := fun t k => J1 t (st2.trans k)
  have J5 : ∀ t, Steps p.tables e below (T2.setTop (mkF m 23 #[.val (.ref a1), .val (.long (9223372036854775807 : Int64)), .second, .unset] [(.int (1 : Int32)), (.ref a1)])) t → Steps p.tables e below (s₁.setTop (entryFrame m #[(.ref a1), (.long (9223372036854775807 : Int64))] 4)) t := fun t k => J4 t (by
      show Steps p.tables e below (T2.setTop (mkF m 4 #[.val (.ref a1), .val (.long (9223372036854775807 : Int64)), .second, .unset] [])) _
      refine XS.lloadN X2.here hx rfl (hb hby d21_4) rfl ?_
      show Steps p.tables e below (T2.setTop (mkF m 5 #[.val (.ref a1), .val (.long (9223372036854775807 : Int64)), .second, .unset] [(.long (9223372036854775807 : Int64))])) _
      refine XS.lconst X2.here hx rfl (hb hby d21_5) ?_
      show Steps p.tables e below (T2.setTop (mkF m 6 #[.val (.ref a1), .val (.long (9223372036854775807 : Int64)), .second, .unset] [(.long (0 : Int64)), (.long (9223372036854775807 : Int64))])) _
      refine XS.lcmp X2.here hx rfl (hb hby d21_6) rfl ?_
      show Steps p.tables e below (T2.setTop (mkF m 7 #[.val (.ref a1), .val (.long (9223372036854775807 : Int64)), .second, .unset] [(.int (lcmpW (9223372036854775807 : Int64) (0 : Int64)))])) _
      refine XS.ifYes X2.here hx rfl (pc0 := 7) (pc' := 21) rfl (hb hby d21_7) rfl ((if0 _ _).trans (flt (by decide)).2.1) (by decide) (by decide) ?_
      show Steps p.tables e below (T2.setTop (mkF m 21 #[.val (.ref a1), .val (.long (9223372036854775807 : Int64)), .second, .unset] [])) _
      refine XS.aloadN X2.here hx rfl (hb hby d21_21) rfl rfl ?_
      show Steps p.tables e below (T2.setTop (mkF m 22 #[.val (.ref a1), .val (.long (9223372036854775807 : Int64)), .second, .unset] [(.ref a1)])) _
      refine XS.iconst X2.here hx rfl (hb hby d21_22) ?_
      exact k)
  obtain ⟨T6, h6, X6, e6, W6, st6⟩ := putF X2 hx hZ hown (host := "") (Or.inl (hw _ (List.mem_of_getElem? (i := 156) rfl))) Via.refl e2 F_signum_a1 E_a1 (Or.inr ⟨(hw _ (List.mem_of_getElem? (i := 157) rfl)), rfl, hnm⟩) (hw _ (List.mem_of_getElem? (i := 149) rfl)) (ty := .int) (by decide) rfl rfl (g := (mkF m 23 #[.val (.ref a1), .val (.long (9223372036854775807 : Int64)), .second, .unset] [(.int (1 : Int32)), (.ref a1)])) rfl rfl (hb hby d21_23)
  have J7 : ∀ t, Steps p.tables e below (T6.setTop (mkF m 26 #[.val (.ref a1), .val (.long (9223372036854775807 : Int64)), .second, .unset] [])) t → Steps p.tables e below (s₁.setTop (entryFrame m #[(.ref a1), (.long (9223372036854775807 : Int64))] 4)) t := fun t k => J5 t (st6 t k)
  have Z8 : n0 ≤ h6.size := Nat.le_trans Z0 (Keep.of_wr W6).1
  have KK9 : Keep h0 h6 [a1] := (Keep.refl h0 [a1]).wr W6 (Or.inl (List.mem_of_getElem? (i := 0) rfl))
  have N10 := Fr.snoc X6 N3 g_a1
  have Fw6 := F_signum_a1.same W6
  have J11 : ∀ t, Steps p.tables e below (T6.setTop (mkF m 31 #[.val (.ref a1), .val (.long (9223372036854775807 : Int64)), .second, .unset] [(.int ((((9223372036854775807 : Int64).toUInt64 >>> ((32 : Int32) &&& 0x3f).toInt64.toUInt64).toInt64).toInt32))])) t → Steps p.tables e below (s₁.setTop (entryFrame m #[(.ref a1), (.long (9223372036854775807 : Int64))] 4)) t := fun t k => J7 t (by
      show Steps p.tables e below (T6.setTop (mkF m 26 #[.val (.ref a1), .val (.long (9223372036854775807 : Int64)), .second, .unset] [])) _
      refine XS.lloadN X6.here hx rfl (hb hby d21_26) rfl ?_
      show Steps p.tables e below (T6.setTop (mkF m 27 #[.val (.ref a1), .val (.long (9223372036854775807 : Int64)), .second, .unset] [(.long (9223372036854775807 : Int64))])) _
      refine XS.bipush X6.here hx rfl (hb hby d21_27) ?_
      show Steps p.tables e below (T6.setTop (mkF m 29 #[.val (.ref a1), .val (.long (9223372036854775807 : Int64)), .second, .unset] [(.int (32 : Int32)), (.long (9223372036854775807 : Int64))])) _
      refine XS.lushr X6.here hx rfl (hb hby d21_29) rfl ?_
      show Steps p.tables e below (T6.setTop (mkF m 30 #[.val (.ref a1), .val (.long (9223372036854775807 : Int64)), .second, .unset] [(.long (((9223372036854775807 : Int64).toUInt64 >>> ((32 : Int32) &&& 0x3f).toInt64.toUInt64).toInt64))])) _
      refine XS.l2i X6.here hx rfl (hb hby d21_30) rfl ?_
      exact k)
  have J12 : ∀ t, Steps p.tables e below (T6.setTop (mkF m 31 #[.val (.ref a1), .val (.long (9223372036854775807 : Int64)), .second, .unset] [(.int (2147483647 : Int32))])) t → Steps p.tables e below (s₁.setTop (entryFrame m #[(.ref a1), (.long (9223372036854775807 : Int64))] 4)) t := fun t k => J11 t (by rw [(by decide : ((((9223372036854775807 : Int64).toUInt64 >>> ((32 : Int32) &&& 0x3f).toInt64.toUInt64).toInt64).toInt32) = (2147483647 : Int32))]; exact k)
  have J13 : ∀ t, Steps p.tables e below (T6.setTop (mkF m 56 #[.val (.ref a1), .val (.long (9223372036854775807 : Int64)), .second, .val (.int (2147483647 : Int32))] [(.int (2 : Int32)), (.ref a1)])) t → Steps p.tables e below (s₁.setTop (entryFrame m #[(.ref a1), (.long (9223372036854775807 : Int64))] 4)) t := fun t k => J12 t (by
      show Steps p.tables e below (T6.setTop (mkF m 31 #[.val (.ref a1), .val (.long (9223372036854775807 : Int64)), .second, .unset] [(.int (2147483647 : Int32))])) _
      refine XS.istoreN X6.here hx rfl (hb hby d21_31) rfl (l' := #[.val (.ref a1), .val (.long (9223372036854775807 : Int64)), .second, .val (.int (2147483647 : Int32))]) rfl ?_
      show Steps p.tables e below (T6.setTop (mkF m 32 #[.val (.ref a1), .val (.long (9223372036854775807 : Int64)), .second, .val (.int (2147483647 : Int32))] [])) _
      refine XS.iloadN X6.here hx rfl (hb hby d21_32) rfl ?_
      show Steps p.tables e below (T6.setTop (mkF m 33 #[.val (.ref a1), .val (.long (9223372036854775807 : Int64)), .second, .val (.int (2147483647 : Int32))] [(.int (2147483647 : Int32))])) _
      refine XS.ifYes X6.here hx rfl (pc0 := 33) (pc' := 54) rfl (hb hby d21_33) rfl ((if0 _ _).trans (feq (by decide)).2) (by decide) (by decide) ?_
      show Steps p.tables e below (T6.setTop (mkF m 54 #[.val (.ref a1), .val (.long (9223372036854775807 : Int64)), .second, .val (.int (2147483647 : Int32))] [])) _
      refine XS.aloadN X6.here hx rfl (hb hby d21_54) rfl rfl ?_
      show Steps p.tables e below (T6.setTop (mkF m 55 #[.val (.ref a1), .val (.long (9223372036854775807 : Int64)), .second, .val (.int (2147483647 : Int32))] [(.ref a1)])) _
      refine XS.iconst X6.here hx rfl (hb hby d21_55) ?_
      exact k)
  have f15 := E_a1.wr W6
  obtain ⟨T14, h14, k14, X14, e14, E14, A14, st14⟩ := newP X6 hx hZ (hw _ (List.mem_of_getElem? (i := 158) rfl)) e6 (g := (mkF m 56 #[.val (.ref a1), .val (.long (9223372036854775807 : Int64)), .second, .val (.int (2147483647 : Int32))] [(.int (2 : Int32)), (.ref a1)])) rfl (hb hby d21_56) rfl (by decide) (cap := 2) (by decide) (by decide) (by decide) (by decide)
  obtain ⟨b14, g14⟩ : ∃ z, z = h6.size := ⟨_, rfl⟩
  rw [← g14] at A14 st14
  obtain ⟨cl14, hcl14⟩ : ∃ z, z = newA k14 .int (2 : Int32) := ⟨_, rfl⟩
  have Aw14 : Arr Z h14 b14 cl14 .int := by rw [hcl14]; exact A14
  have J16 : ∀ t, Steps p.tables e below (T14.setTop (mkF m 58 #[.val (.ref a1), .val (.long (9223372036854775807 : Int64)), .second, .val (.int (2147483647 : Int32))] [(.ref b14), (.ref a1)])) t → Steps p.tables e below (s₁.setTop (entryFrame m #[(.ref a1), (.long (9223372036854775807 : Int64))] 4)) t := fun t k => J13 t (st14 t k)
  have ne17 : a1 ≠ b14 := Nat.ne_of_lt (Nat.lt_of_lt_of_le f15.lt (Nat.le_of_eq g14.symm))
  have ge18 : n0 ≤ b14 := Nat.le_trans Z8 (Nat.le_of_eq g14.symm)
  have sz19 : h0.size ≤ b14 := Nat.le_trans KK9.1 (Nat.le_of_eq g14.symm)
  have Z20 : n0 ≤ h14.size := Nat.le_trans Z8 E14.1
  have KK21 : Keep h0 h14 [a1] := KK9.ext E14
  have hS0 : cl14.slots.size = 2 := by rw [hcl14, sz_new]; decide
  have f22 := F_mag_a1.other W6 (Or.inr (slot_ne (Or.inr (hw _ (List.mem_of_getElem? (i := 160) rfl))) (Or.inr (hw _ (List.mem_of_getElem? (i := 157) rfl))) (by decide) (t := (.array .int)) (t' := .int) (by decide) (by decide)))
  have f23 := f22.ext E14
  have f24 := f15.ext E14
  obtain ⟨T25, h25, X25, e25, W25, st25⟩ := putF X14 hx hZ hown (host := "") (Or.inl (hw _ (List.mem_of_getElem? (i := 159) rfl))) Via.refl e14 f23 f24 (Or.inr ⟨(hw _ (List.mem_of_getElem? (i := 160) rfl)), rfl, hnm⟩) (hw _ (List.mem_of_getElem? (i := 149) rfl)) (ty := (.array .int)) (by decide) rfl rfl (g := (mkF m 58 #[.val (.ref a1), .val (.long (9223372036854775807 : Int64)), .second, .val (.int (2147483647 : Int32))] [(.ref b14), (.ref a1)])) rfl rfl (hb hby d21_58)
  have J26 : ∀ t, Steps p.tables e below (T25.setTop (mkF m 61 #[.val (.ref a1), .val (.long (9223372036854775807 : Int64)), .second, .val (.int (2147483647 : Int32))] [])) t → Steps p.tables e below (s₁.setTop (entryFrame m #[(.ref a1), (.long (9223372036854775807 : Int64))] 4)) t := fun t k => J16 t (st25 t k)
  have Z27 : n0 ≤ h25.size := Nat.le_trans Z20 (Keep.of_wr W25).1
  have KK28 : Keep h0 h25 [a1] := KK21.wr W25 (Or.inl (List.mem_of_getElem? (i := 0) rfl))
  have N29 := Fr.snoc X25 N10 g_a1
  have Fw25 := f23.same W25
  have J30 : ∀ t, Steps p.tables e below (T25.setTop (mkF m 62 #[.val (.ref a1), .val (.long (9223372036854775807 : Int64)), .second, .val (.int (2147483647 : Int32))] [(.ref a1)])) t → Steps p.tables e below (s₁.setTop (entryFrame m #[(.ref a1), (.long (9223372036854775807 : Int64))] 4)) t := fun t k => J26 t (by
      show Steps p.tables e below (T25.setTop (mkF m 61 #[.val (.ref a1), .val (.long (9223372036854775807 : Int64)), .second, .val (.int (2147483647 : Int32))] [])) _
      refine XS.aloadN X25.here hx rfl (hb hby d21_61) rfl rfl ?_
      exact k)
  obtain ⟨T31, X31, e31, st31⟩ := getF X25 hx hZ hown (host := "") (Or.inl (hw _ (List.mem_of_getElem? (i := 159) rfl))) Via.refl e25 Fw25 (g := (mkF m 62 #[.val (.ref a1), .val (.long (9223372036854775807 : Int64)), .second, .val (.int (2147483647 : Int32))] [(.ref a1)])) rfl rfl (hb hby d21_62)
  have J32 : ∀ t, Steps p.tables e below (T31.setTop (mkF m 65 #[.val (.ref a1), .val (.long (9223372036854775807 : Int64)), .second, .val (.int (2147483647 : Int32))] [(.ref b14)])) t → Steps p.tables e below (s₁.setTop (entryFrame m #[(.ref a1), (.long (9223372036854775807 : Int64))] 4)) t := fun t k => J30 t (st31 t k)
  have J33 : ∀ t, Steps p.tables e below (T31.setTop (mkF m 67 #[.val (.ref a1), .val (.long (9223372036854775807 : Int64)), .second, .val (.int (2147483647 : Int32))] [(.int (2147483647 : Int32)), (.int (0 : Int32)), (.ref b14)])) t → Steps p.tables e below (s₁.setTop (entryFrame m #[(.ref a1), (.long (9223372036854775807 : Int64))] 4)) t := fun t k => J32 t (by
      show Steps p.tables e below (T31.setTop (mkF m 65 #[.val (.ref a1), .val (.long (9223372036854775807 : Int64)), .second, .val (.int (2147483647 : Int32))] [(.ref b14)])) _
      refine XS.iconst X31.here hx rfl (hb hby d21_65) ?_
      show Steps p.tables e below (T31.setTop (mkF m 66 #[.val (.ref a1), .val (.long (9223372036854775807 : Int64)), .second, .val (.int (2147483647 : Int32))] [(.int (0 : Int32)), (.ref b14)])) _
      refine XS.iloadN X31.here hx rfl (hb hby d21_66) rfl ?_
      exact k)
  have f34 := Aw14.other W25 (Ne.symm ne17)
  obtain ⟨T35, h35, X35, e35, W35, st35⟩ := stI X31 hx hZ e31 f34 (j := (0 : Int32)) (own_in hS0 (by decide) (by decide)) (g := (mkF m 67 #[.val (.ref a1), .val (.long (9223372036854775807 : Int64)), .second, .val (.int (2147483647 : Int32))] [(.int (2147483647 : Int32)), (.int (0 : Int32)), (.ref b14)])) rfl rfl (hb hby d21_67)
  have J36 : ∀ t, Steps p.tables e below (T35.setTop (mkF m 68 #[.val (.ref a1), .val (.long (9223372036854775807 : Int64)), .second, .val (.int (2147483647 : Int32))] [])) t → Steps p.tables e below (s₁.setTop (entryFrame m #[(.ref a1), (.long (9223372036854775807 : Int64))] 4)) t := fun t k => J33 t (st35 t k)
  have Z37 : n0 ≤ h35.size := Nat.le_trans Z27 (Keep.of_wr W35).1
  have KK38 : Keep h0 h35 [a1] := KK28.wr W35 (Or.inr sz19)
  have N39 := Fr.snoc X35 N29 ge18
  obtain ⟨cl35, hcl35⟩ : ∃ z, z = cl14.setSlot ((0 : Int32)).toNatClampNeg (.int (2147483647 : Int32)) := ⟨_, rfl⟩
  have Aw35 : Arr Z h35 b14 cl35 .int := by rw [hcl35]; exact f34.same W35
  have hS1 := own_ssz hcl35 hS0
  have J40 : ∀ t, Steps p.tables e below (T35.setTop (mkF m 69 #[.val (.ref a1), .val (.long (9223372036854775807 : Int64)), .second, .val (.int (2147483647 : Int32))] [(.ref a1)])) t → Steps p.tables e below (s₁.setTop (entryFrame m #[(.ref a1), (.long (9223372036854775807 : Int64))] 4)) t := fun t k => J36 t (by
      show Steps p.tables e below (T35.setTop (mkF m 68 #[.val (.ref a1), .val (.long (9223372036854775807 : Int64)), .second, .val (.int (2147483647 : Int32))] [])) _
      refine XS.aloadN X35.here hx rfl (hb hby d21_68) rfl rfl ?_
      exact k)
  have f41 := Fw25.other W35 (Or.inl ne17)
  obtain ⟨T42, X42, e42, st42⟩ := getF X35 hx hZ hown (host := "") (Or.inl (hw _ (List.mem_of_getElem? (i := 159) rfl))) Via.refl e35 f41 (g := (mkF m 69 #[.val (.ref a1), .val (.long (9223372036854775807 : Int64)), .second, .val (.int (2147483647 : Int32))] [(.ref a1)])) rfl rfl (hb hby d21_69)
  have J43 : ∀ t, Steps p.tables e below (T42.setTop (mkF m 72 #[.val (.ref a1), .val (.long (9223372036854775807 : Int64)), .second, .val (.int (2147483647 : Int32))] [(.ref b14)])) t → Steps p.tables e below (s₁.setTop (entryFrame m #[(.ref a1), (.long (9223372036854775807 : Int64))] 4)) t := fun t k => J40 t (st42 t k)
  have J44 : ∀ t, Steps p.tables e below (T42.setTop (mkF m 75 #[.val (.ref a1), .val (.long (9223372036854775807 : Int64)), .second, .val (.int (2147483647 : Int32))] [(.int ((9223372036854775807 : Int64).toInt32)), (.int (1 : Int32)), (.ref b14)])) t → Steps p.tables e below (s₁.setTop (entryFrame m #[(.ref a1), (.long (9223372036854775807 : Int64))] 4)) t := fun t k => J43 t (by
      show Steps p.tables e below (T42.setTop (mkF m 72 #[.val (.ref a1), .val (.long (9223372036854775807 : Int64)), .second, .val (.int (2147483647 : Int32))] [(.ref b14)])) _
      refine XS.iconst X42.here hx rfl (hb hby d21_72) ?_
      show Steps p.tables e below (T42.setTop (mkF m 73 #[.val (.ref a1), .val (.long (9223372036854775807 : Int64)), .second, .val (.int (2147483647 : Int32))] [(.int (1 : Int32)), (.ref b14)])) _
      refine XS.lloadN X42.here hx rfl (hb hby d21_73) rfl ?_
      show Steps p.tables e below (T42.setTop (mkF m 74 #[.val (.ref a1), .val (.long (9223372036854775807 : Int64)), .second, .val (.int (2147483647 : Int32))] [(.long (9223372036854775807 : Int64)), (.int (1 : Int32)), (.ref b14)])) _
      refine XS.l2i X42.here hx rfl (hb hby d21_74) rfl ?_
      exact k)
  have J45 : ∀ t, Steps p.tables e below (T42.setTop (mkF m 75 #[.val (.ref a1), .val (.long (9223372036854775807 : Int64)), .second, .val (.int (2147483647 : Int32))] [(.int (-1 : Int32)), (.int (1 : Int32)), (.ref b14)])) t → Steps p.tables e below (s₁.setTop (entryFrame m #[(.ref a1), (.long (9223372036854775807 : Int64))] 4)) t := fun t k => J44 t (by rw [(by decide : ((9223372036854775807 : Int64).toInt32) = (-1 : Int32))]; exact k)
  obtain ⟨T46, h46, X46, e46, W46, st46⟩ := stI X42 hx hZ e42 Aw35 (j := (1 : Int32)) (own_in hS1 (by decide) (by decide)) (g := (mkF m 75 #[.val (.ref a1), .val (.long (9223372036854775807 : Int64)), .second, .val (.int (2147483647 : Int32))] [(.int (-1 : Int32)), (.int (1 : Int32)), (.ref b14)])) rfl rfl (hb hby d21_75)
  have J47 : ∀ t, Steps p.tables e below (T46.setTop (mkF m 76 #[.val (.ref a1), .val (.long (9223372036854775807 : Int64)), .second, .val (.int (2147483647 : Int32))] [])) t → Steps p.tables e below (s₁.setTop (entryFrame m #[(.ref a1), (.long (9223372036854775807 : Int64))] 4)) t := fun t k => J45 t (st46 t k)
  have Z48 : n0 ≤ h46.size := Nat.le_trans Z37 (Keep.of_wr W46).1
  have KK49 : Keep h0 h46 [a1] := KK38.wr W46 (Or.inr sz19)
  have N50 := Fr.snoc X46 N39 ge18
  obtain ⟨cl46, hcl46⟩ : ∃ z, z = cl35.setSlot ((1 : Int32)).toNatClampNeg (.int (-1 : Int32)) := ⟨_, rfl⟩
  have Aw46 : Arr Z h46 b14 cl46 .int := by rw [hcl46]; exact Aw35.same W46
  obtain ⟨fs, hr, hrun, hended, hW, hsame⟩ := X46.leave (v := none) (fun _ => rfl)
  have f51 := f24.wr W25
  have f52 := f51.wr W35
  have f53 := f52.wr W46
  have f54 := Fw6.ext E14
  have f55 := f54.other W25 (Or.inr (slot_ne (Or.inr (hw _ (List.mem_of_getElem? (i := 157) rfl))) (Or.inr (hw _ (List.mem_of_getElem? (i := 160) rfl))) (by decide) (t := .int) (t' := (.array .int)) (by decide) (by decide)))
  have f56 := f55.other W35 (Or.inl ne17)
  have f57 := f56.other W46 (Or.inl ne17)
  have f58 := f41.other W46 (Or.inl ne17)
  have f59 := F_bitLengthPlusOne_a1.other W6 (Or.inr (slot_ne (Or.inl (hw _ (List.mem_of_getElem? (i := 223) rfl))) (Or.inr (hw _ (List.mem_of_getElem? (i := 157) rfl))) (by decide) (t := .int) (t' := .int) (by decide) (by decide)))
  have f60 := f59.ext E14
  have f61 := f60.other W25 (Or.inr (slot_ne (Or.inl (hw _ (List.mem_of_getElem? (i := 223) rfl))) (Or.inr (hw _ (List.mem_of_getElem? (i := 160) rfl))) (by decide) (t := .int) (t' := (.array .int)) (by decide) (by decide)))
  have f62 := f61.other W35 (Or.inl ne17)
  have f63 := f62.other W46 (Or.inl ne17)
  refine ⟨_, _, J47 _ ?_, hrun, hended, _, _, rfl, ?_, ⟨_, rfl⟩, hW, hsame.mono (by decide) (by decide)⟩
  · show Steps p.tables e below (T46.setTop (mkF m 76 #[.val (.ref a1), .val (.long (9223372036854775807 : Int64)), .second, .val (.int (2147483647 : Int32))] [])) _
    exact X46.returnOut hx Bd.returns (hb hby d21_76) hr
  · show Q21 Z a1 u1 u2 h0 n0 _ T46.heap _
    rw [e46]
    exact ⟨b14, cl46, rfl, N50, KK49, f53, f57, f58, f63, Aw46, (own_ssz hcl46 hS1), (own_other hcl46 (by decide) (own_same hcl35 (by decide) (by rw [hS0]; decide))), (own_same hcl46 (by decide) (by rw [hS1]; decide)), sz19⟩
theorem d20_0 : decode jdk_2097_method_29_code 0 = .ok (.lload_n 0, 1) := by decide +kernel
theorem d20_1 : decode jdk_2097_method_29_code 1 = .ok (.lconst 0, 1) := by decide +kernel
theorem d20_2 : decode jdk_2097_method_29_code 2 = .ok (.lcmp, 1) := by decide +kernel
theorem d20_3 : decode jdk_2097_method_29_code 3 = .ok (.ifCond .ne 7, 3) := by decide +kernel
theorem d20_10 : decode jdk_2097_method_29_code 10 = .ok (.lload_n 0, 1) := by decide +kernel
theorem d20_11 : decode jdk_2097_method_29_code 11 = .ok (.lconst 0, 1) := by decide +kernel
theorem d20_12 : decode jdk_2097_method_29_code 12 = .ok (.lcmp, 1) := by decide +kernel
theorem d20_13 : decode jdk_2097_method_29_code 13 = .ok (.ifCond .le 18, 3) := by decide +kernel
theorem d20_16 : decode jdk_2097_method_29_code 16 = .ok (.lload_n 0, 1) := by decide +kernel
theorem d20_17 : decode jdk_2097_method_29_code 17 = .ok (.ldc2_w 345, 3) := by decide +kernel
theorem d20_20 : decode jdk_2097_method_29_code 20 = .ok (.lcmp, 1) := by decide +kernel
theorem d20_21 : decode jdk_2097_method_29_code 21 = .ok (.ifCond .gt 10, 3) := by decide +kernel
theorem d20_31 : decode jdk_2097_method_29_code 31 = .ok (.lload_n 0, 1) := by decide +kernel
theorem d20_32 : decode jdk_2097_method_29_code 32 = .ok (.lconst 0, 1) := by decide +kernel
theorem d20_33 : decode jdk_2097_method_29_code 33 = .ok (.lcmp, 1) := by decide +kernel
theorem d20_34 : decode jdk_2097_method_29_code 34 = .ok (.ifCond .ge 19, 3) := by decide +kernel
theorem d20_53 : decode jdk_2097_method_29_code 53 = .ok (.new 23, 3) := by decide +kernel
theorem d20_56 : decode jdk_2097_method_29_code 56 = .ok (.dup, 1) := by decide +kernel
theorem d20_57 : decode jdk_2097_method_29_code 57 = .ok (.lload_n 0, 1) := by decide +kernel
theorem d20_58 : decode jdk_2097_method_29_code 58 = .ok (.invokespecial 356, 3) := by decide +kernel
theorem pd_4 : parseMethodDescriptor "(J)V" = some ⟨[.long], none⟩ := by decide +kernel
theorem d20_61 : decode jdk_2097_method_29_code 61 = .ok (.areturn, 1) := by decide +kernel
theorem pn_20 : plainName "java/math/BigInteger" = true := by first | (simp [plainName, overriddenIn]; done) | decide +kernel
theorem ef_20_x (m : MethodId) (x0 : Int64) : entryFrame m #[(.long x0)] 2 = mkF m 0 #[.val (.long x0), .second] [] := by first | (simp [entryFrame, mkF, argsToLocals, Value.category]; done) | rfl
def Q20 (Z : State)  (h0 : Heap) (n0 : Nat) (v : Option Value) (h : Heap) (L : List Loc) : Prop := ∃ (bi : Addr) (mg : Addr) (mcl : Cell), v = some (.ref bi) ∧ Fr n0 L ∧ Keep h0 h [] ∧ (Exa Z h bi "java/math/BigInteger") ∧ (Fld Z h bi "java/math/BigInteger" "signum" "I" (.int (1 : Int32))) ∧ (Fld Z h bi "java/math/BigInteger" "mag" "[I" (.ref mg)) ∧ (Fld Z h bi "java/math/BigInteger" "bitLengthPlusOne" "I" (.int (0 : Int32))) ∧ (Arr Z h mg mcl .int) ∧ (mcl.slots.size = 2) ∧ (mcl.slots[0]? = some (.int (2147483647 : Int32))) ∧ (mcl.slots[1]? = some (.int (-1 : Int32))) ∧ (h0.size ≤ bi)
set_option maxRecDepth 65536 in
set_option maxHeartbeats 40000000 in
theorem rm20 (l : Launch) (Z : State) (a0 : Array Value) (hw : ∀ d ∈ tables_1, d.before a0 Z = true) (ws : List Jvm.Cond)  (h0 : Heap) (n0 : Nat) (Z0 : n0 ≤ h0.size) :
    MetFree l (⟨"java/math/BigInteger", "valueOf", "(J)Ljava/math/BigInteger;"⟩ : MethodName) (head1 (Jvm.Cond.code (⟨"java/math/BigInteger", "valueOf", "(J)Ljava/math/BigInteger;"⟩ : MethodName) jdk_2097_method_29_code 2 (some (.object "java/math/BigInteger")) :: ws) ({ frames := 3, cells := 2, slots := 8, locals := 40 } : Room)) (fun a U => a = #[(.long (9223372036854775807 : Int64))] ∧ Z.Warmed39 U.vm ∧ U.heap = h0) (fun _ _ _ _ _ => True) (fun _ U o U' => ∃ v L, o = .returned v ∧ Q20 Z  h0 n0 v U'.heap L ∧ FrameEnd U o U' L ({ frames := 3, cells := 2, slots := 8, locals := 40 } : Room).cells ({ frames := 3, cells := 2, slots := 8, locals := 40 } : Room).slots) := by
  refine MetFree.of_bodySF (plainFor_of_name pn_20) hisR ?_
  intro p e s m args below meth c s₁ Bd hml0 hP hK
  obtain ⟨rfl, hZ, hh⟩ := hP
  have hx := Bd.exec
  have hby := Bd.bytes
  have hml : c.maxLocals = 2 := hml0
  have hown : s.vm.findClass "java/math/BigInteger" = some m.cls := findClass_of_methodNamed Bd.named
  have hnm := (name_of_methodNamed Bd.named Bd.method).1
  have X0 : Stand p l e ({ frames := 3, cells := 2, slots := 8, locals := 40 } : Room) s m #[(.long (9223372036854775807 : Int64))] below meth c s₁ [] 0 0 := Stand.of_body Bd
  have e0 : s₁.heap = h0 := by rw [← hh, Bd.state]; rfl
  have N0 := Fr.nil n0
  have pre0 : ∀ t, Steps p.tables e below (s₁.setTop (mkF m 0 #[.val (.long (9223372036854775807 : Int64)), .second] [])) t → Steps p.tables e below (s₁.setTop (entryFrame m #[(.long (9223372036854775807 : Int64))] 2)) t := fun t k => castTop (ef_20_x m (9223372036854775807 : Int64)) k
  have J1 : ∀ t, Steps p.tables e below (s₁.setTop (mkF m 53 #[.val (.long (9223372036854775807 : Int64)), .second] [])) t → Steps p.tables e below (s₁.setTop (entryFrame m #[(.long (9223372036854775807 : Int64))] 2)) t := fun t k => pre0 t (by
      show Steps p.tables e below (s₁.setTop (mkF m 0 #[.val (.long (9223372036854775807 : Int64)), .second] [])) _
      refine XS.lloadN X0.here hx rfl (hb hby d20_0) rfl ?_
      show Steps p.tables e below (s₁.setTop (mkF m 1 #[.val (.long (9223372036854775807 : Int64)), .second] [(.long (9223372036854775807 : Int64))])) _
      refine XS.lconst X0.here hx rfl (hb hby d20_1) ?_
      show Steps p.tables e below (s₁.setTop (mkF m 2 #[.val (.long (9223372036854775807 : Int64)), .second] [(.long (0 : Int64)), (.long (9223372036854775807 : Int64))])) _
      refine XS.lcmp X0.here hx rfl (hb hby d20_2) rfl ?_
      show Steps p.tables e below (s₁.setTop (mkF m 3 #[.val (.long (9223372036854775807 : Int64)), .second] [(.int (lcmpW (9223372036854775807 : Int64) (0 : Int64)))])) _
      refine XS.ifYes X0.here hx rfl (pc0 := 3) (pc' := 10) rfl (hb hby d20_3) rfl ((if0 _ _).trans (feq (by decide)).2) (by decide) (by decide) ?_
      show Steps p.tables e below (s₁.setTop (mkF m 10 #[.val (.long (9223372036854775807 : Int64)), .second] [])) _
      refine XS.lloadN X0.here hx rfl (hb hby d20_10) rfl ?_
      show Steps p.tables e below (s₁.setTop (mkF m 11 #[.val (.long (9223372036854775807 : Int64)), .second] [(.long (9223372036854775807 : Int64))])) _
      refine XS.lconst X0.here hx rfl (hb hby d20_11) ?_
      show Steps p.tables e below (s₁.setTop (mkF m 12 #[.val (.long (9223372036854775807 : Int64)), .second] [(.long (0 : Int64)), (.long (9223372036854775807 : Int64))])) _
      refine XS.lcmp X0.here hx rfl (hb hby d20_12) rfl ?_
      show Steps p.tables e below (s₁.setTop (mkF m 13 #[.val (.long (9223372036854775807 : Int64)), .second] [(.int (lcmpW (9223372036854775807 : Int64) (0 : Int64)))])) _
      refine XS.ifNo X0.here hx rfl (hb hby d20_13) rfl ((if0 _ _).trans (tlt (by decide)).2.2.2) ?_
      show Steps p.tables e below (s₁.setTop (mkF m 16 #[.val (.long (9223372036854775807 : Int64)), .second] [])) _
      refine XS.lloadN X0.here hx rfl (hb hby d20_16) rfl ?_
      show Steps p.tables e below (s₁.setTop (mkF m 17 #[.val (.long (9223372036854775807 : Int64)), .second] [(.long (9223372036854775807 : Int64))])) _
      refine X0.ldc2Long hx hown (mvT hZ (hw _ (List.mem_of_getElem? (i := 147) rfl))) (g := (mkF m 17 #[.val (.long (9223372036854775807 : Int64)), .second] [(.long (9223372036854775807 : Int64))])) rfl (hb hby d20_17) _ ?_
      show Steps p.tables e below (s₁.setTop (mkF m 20 #[.val (.long (9223372036854775807 : Int64)), .second] [(.long (16 : Int64)), (.long (9223372036854775807 : Int64))])) _
      refine XS.lcmp X0.here hx rfl (hb hby d20_20) rfl ?_
      show Steps p.tables e below (s₁.setTop (mkF m 21 #[.val (.long (9223372036854775807 : Int64)), .second] [(.int (lcmpW (9223372036854775807 : Int64) (16 : Int64)))])) _
      refine XS.ifYes X0.here hx rfl (pc0 := 21) (pc' := 31) rfl (hb hby d20_21) rfl ((if0 _ _).trans (tlt (by decide)).2.2.1) (by decide) (by decide) ?_
      show Steps p.tables e below (s₁.setTop (mkF m 31 #[.val (.long (9223372036854775807 : Int64)), .second] [])) _
      refine XS.lloadN X0.here hx rfl (hb hby d20_31) rfl ?_
      show Steps p.tables e below (s₁.setTop (mkF m 32 #[.val (.long (9223372036854775807 : Int64)), .second] [(.long (9223372036854775807 : Int64))])) _
      refine XS.lconst X0.here hx rfl (hb hby d20_32) ?_
      show Steps p.tables e below (s₁.setTop (mkF m 33 #[.val (.long (9223372036854775807 : Int64)), .second] [(.long (0 : Int64)), (.long (9223372036854775807 : Int64))])) _
      refine XS.lcmp X0.here hx rfl (hb hby d20_33) rfl ?_
      show Steps p.tables e below (s₁.setTop (mkF m 34 #[.val (.long (9223372036854775807 : Int64)), .second] [(.int (lcmpW (9223372036854775807 : Int64) (0 : Int64)))])) _
      refine XS.ifYes X0.here hx rfl (pc0 := 34) (pc' := 53) rfl (hb hby d20_34) rfl ((if0 _ _).trans (flt (by decide)).2.1) (by decide) (by decide) ?_
      exact k)
  obtain ⟨T2, h2, X2, e2, E2, A2, D2, U2, st2⟩ := newO X0 hx hZ hown (hw _ (List.mem_of_getElem? (i := 148) rfl)) (hw _ (List.mem_of_getElem? (i := 149) rfl)) (hw _ (List.mem_of_getElem? (i := 145) rfl)) e0 (g := (mkF m 53 #[.val (.long (9223372036854775807 : Int64)), .second] [])) rfl (hb hby d20_53) (by decide) (by decide)
  obtain ⟨b2, g2⟩ : ∃ z, z = h0.size := ⟨_, rfl⟩
  rw [← g2] at A2 D2 U2 st2
  have J3 : ∀ t, Steps p.tables e below (T2.setTop (mkF m 56 #[.val (.long (9223372036854775807 : Int64)), .second] [(.ref b2)])) t → Steps p.tables e below (s₁.setTop (entryFrame m #[(.long (9223372036854775807 : Int64))] 2)) t := fun t k => J1 t (st2 t k)
  have ge4 : n0 ≤ b2 := Nat.le_trans Z0 (Nat.le_of_eq g2.symm)
  have sz5 : h0.size ≤ b2 := Nat.le_trans (Keep.refl h0 []).1 (Nat.le_of_eq g2.symm)
  have Z6 : n0 ≤ h2.size := Nat.le_trans Z0 E2.1
  have KK7 : Keep h0 h2 [] := (Keep.refl h0 []).ext E2
  have F2_signum : Fld Z h2 b2 "java/math/BigInteger" "signum" "I" (.int (0 : Int32)) := D2 (Or.inr (hw _ (List.mem_of_getElem? (i := 157) rfl))) (ty := .int) (by decide)
  have F2_mag : Fld Z h2 b2 "java/math/BigInteger" "mag" "[I" .null := D2 (Or.inr (hw _ (List.mem_of_getElem? (i := 160) rfl))) (ty := (.array .int)) (by decide)
  have F2_bitLengthPlusOne : Fld Z h2 b2 "java/math/BigInteger" "bitLengthPlusOne" "I" (.int (0 : Int32)) := D2 (Or.inl (hw _ (List.mem_of_getElem? (i := 223) rfl))) (ty := .int) (by decide)
  have J8 : ∀ t, Steps p.tables e below (T2.setTop (mkF m 58 #[.val (.long (9223372036854775807 : Int64)), .second] [(.long (9223372036854775807 : Int64)), (.ref b2), (.ref b2)])) t → Steps p.tables e below (s₁.setTop (entryFrame m #[(.long (9223372036854775807 : Int64))] 2)) t := fun t k => J3 t (by
      show Steps p.tables e below (T2.setTop (mkF m 56 #[.val (.long (9223372036854775807 : Int64)), .second] [(.ref b2)])) _
      refine XS.dup X2.here hx rfl (hb hby d20_56) rfl rfl ?_
      show Steps p.tables e below (T2.setTop (mkF m 57 #[.val (.long (9223372036854775807 : Int64)), .second] [(.ref b2), (.ref b2)])) _
      refine XS.lloadN X2.here hx rfl (hb hby d20_57) rfl ?_
      exact k)
  obtain ⟨_, _, ⟨T9, L9, k9, n9⟩, -, X9, ⟨Lc9, hQ9, l9, y9, z9⟩, st9⟩ := X2.specialBack hx (y := (⟨"java/math/BigInteger", "<init>", "(J)V"⟩ : MethodName)) rfl hown (mvT hZ (hw _ (List.mem_of_getElem? (i := 150) rfl))) (mvT hZ (hw _ (List.mem_of_getElem? (i := 151) rfl))) (mvT hZ (hw _ (List.mem_of_getElem? (i := 153) rfl))) (by decide) (backOf (W := 1) (rm21 l Z a0 hw [] b2 (.int (0 : Int32)) .null h2 n0 Z6 A2 ge4 F2_signum F2_mag F2_bitLengthPlusOne) hZ (hw _ (List.mem_of_getElem? (i := 153) rfl)) (hw _ (List.mem_of_getElem? (i := 145) rfl)) (by decide) (by decide)) (g := (mkF m 58 #[.val (.long (9223372036854775807 : Int64)), .second] [(.long (9223372036854775807 : Int64)), (.ref b2), (.ref b2)])) rfl (by rw [hml]; rfl) (Steps.refl _) (a := b2) (argsL := [(.long (9223372036854775807 : Int64))]) (rest := [(.ref b2)]) (lenOf pd_4 rfl) rfl (by show 2 * 0 + _ ≤ _; exact Nat.le_of_eq rfl) (hb hby d20_58) (fun _ _ => ⟨rfl, e2, (by decide : 1 + 1 ≤ _), (by decide : 6 + 2 ≤ _)⟩)
  dsimp only [Pt.U, Pt.locs, Pt.cells, Pt.slots] at X9 l9 y9 z9 st9 hQ9
  subst y9 z9
  obtain ⟨mg_9, mcl_9, rfl, Nq9, K9, p9_1, p9_2, p9_3, p9_4, p9_5, p9_6, p9_7, p9_8, p9_9⟩ := hQ9
  have N10 : Fr n0 L9 := by rw [l9]; exact Fr.app N0 Nq9
  have J11 : ∀ t, Steps p.tables e below (T9.setTop (mkF m 61 #[.val (.long (9223372036854775807 : Int64)), .second] [(.ref b2)])) t → Steps p.tables e below (s₁.setTop (entryFrame m #[(.long (9223372036854775807 : Int64))] 2)) t := fun t k => J8 t (st9.trans k)
  have Z12 : n0 ≤ T9.heap.size := Nat.le_trans Z6 K9.1
  have KK13 : Keep h0 T9.heap [] := KK7.trans K9 (allS (Or.inr sz5) all0)
  obtain ⟨fs, hr, hrun, hended, hW, hsame⟩ := X9.leave (v := some (.ref b2)) (fun h => by rw [Bd.returns] at h; cases h)
  refine ⟨_, _, J11 _ ?_, hrun, hended, _, _, rfl, ?_, ⟨_, rfl⟩, hW, hsame.mono (by decide) (by decide)⟩
  · show Steps p.tables e below (T9.setTop (mkF m 61 #[.val (.long (9223372036854775807 : Int64)), .second] [(.ref b2)])) _
    jvm_step X9.here [X9.here.top, hx, (hb hby d20_61), X9.method', Bd.returns, Value.isRef, FieldType.isReference]
    first | (intro acts; rw [hr _ acts rfl rfl rfl]) | rw [hr _ _ rfl rfl rfl]
    exact Steps.refl _
  · show Q20 Z  h0 n0 _ T9.heap _
    exact ⟨b2, mg_9, mcl_9, rfl, N10, KK13, p9_1, p9_2, p9_3, p9_4, p9_5, p9_6, p9_7, p9_8, sz5⟩
theorem d23_0 : decode jdk_35_method_57_code 0 = .ok (.lload_n 0, 1) := by decide +kernel
theorem d23_1 : decode jdk_35_method_57_code 1 = .ok (.bipush 63, 2) := by decide +kernel
theorem d23_3 : decode jdk_35_method_57_code 3 = .ok (.lshr, 1) := by decide +kernel
theorem d23_4 : decode jdk_35_method_57_code 4 = .ok (.lload_n 0, 1) := by decide +kernel
theorem d23_5 : decode jdk_35_method_57_code 5 = .ok (.lneg, 1) := by decide +kernel
theorem d23_6 : decode jdk_35_method_57_code 6 = .ok (.bipush 63, 2) := by decide +kernel
theorem d23_8 : decode jdk_35_method_57_code 8 = .ok (.lushr, 1) := by decide +kernel
theorem d23_9 : decode jdk_35_method_57_code 9 = .ok (.lor, 1) := by decide +kernel
theorem d23_10 : decode jdk_35_method_57_code 10 = .ok (.l2i, 1) := by decide +kernel
theorem d23_11 : decode jdk_35_method_57_code 11 = .ok (.ireturn, 1) := by decide +kernel
theorem pn_23 : plainName "java/lang/Long" = true := by first | (simp [plainName, overriddenIn]; done) | decide +kernel
theorem ef_23_x (m : MethodId) (x0 : Int64) : entryFrame m #[(.long x0)] 2 = mkF m 0 #[.val (.long x0), .second] [] := by first | (simp [entryFrame, mkF, argsToLocals, Value.category]; done) | rfl
def Q23 (Z : State) (v1 : Int64) (h0 : Heap) (n0 : Nat) (v : Option Value) (h : Heap) (L : List Loc) : Prop := v = some (.int (own_sg v1)) ∧ Fr n0 L ∧ h = h0
set_option maxRecDepth 65536 in
set_option maxHeartbeats 40000000 in
theorem rm23 (l : Launch) (Z : State) (a0 : Array Value) (hw : ∀ d ∈ tables_1, d.before a0 Z = true) (ws : List Jvm.Cond) (v1 : Int64) (h0 : Heap) (n0 : Nat) (Z0 : n0 ≤ h0.size) :
    MetFree l (⟨"java/lang/Long", "signum", "(J)I"⟩ : MethodName) (head1 (Jvm.Cond.code (⟨"java/lang/Long", "signum", "(J)I"⟩ : MethodName) jdk_35_method_57_code 2 (some .int) :: ws) ({ frames := 0, cells := 0, slots := 0, locals := 0 } : Room)) (fun a U => a = #[(.long v1)] ∧ Z.Warmed39 U.vm ∧ U.heap = h0) (fun _ _ _ _ _ => True) (fun _ U o U' => ∃ v L, o = .returned v ∧ Q23 Z v1 h0 n0 v U'.heap L ∧ FrameEnd U o U' L ({ frames := 0, cells := 0, slots := 0, locals := 0 } : Room).cells ({ frames := 0, cells := 0, slots := 0, locals := 0 } : Room).slots) := by
  refine MetFree.of_bodySF (plainFor_of_name pn_23) hisR ?_
  intro p e s m args below meth c s₁ Bd hml0 hP hK
  obtain ⟨rfl, hZ, hh⟩ := hP
  have hx := Bd.exec
  have hby := Bd.bytes
  have hml : c.maxLocals = 2 := hml0
  have hown : s.vm.findClass "java/lang/Long" = some m.cls := findClass_of_methodNamed Bd.named
  have hnm := (name_of_methodNamed Bd.named Bd.method).1
  have X0 : Stand p l e ({ frames := 0, cells := 0, slots := 0, locals := 0 } : Room) s m #[(.long v1)] below meth c s₁ [] 0 0 := Stand.of_body Bd
  have e0 : s₁.heap = h0 := by rw [← hh, Bd.state]; rfl
  have N0 := Fr.nil n0
  have pre0 : ∀ t, Steps p.tables e below (s₁.setTop (mkF m 0 #[.val (.long v1), .second] [])) t → Steps p.tables e below (s₁.setTop (entryFrame m #[(.long v1)] 2)) t := fun t k => castTop (ef_23_x m v1) k
  have J1 : ∀ t, Steps p.tables e below (s₁.setTop (mkF m 11 #[.val (.long v1), .second] [(.int (((v1 >>> ((63 : Int32) &&& 0x3f).toInt64) ||| (((-v1).toUInt64 >>> ((63 : Int32) &&& 0x3f).toInt64.toUInt64).toInt64)).toInt32))])) t → Steps p.tables e below (s₁.setTop (entryFrame m #[(.long v1)] 2)) t := fun t k => pre0 t (by
      show Steps p.tables e below (s₁.setTop (mkF m 0 #[.val (.long v1), .second] [])) _
      refine XS.lloadN X0.here hx rfl (hb hby d23_0) rfl ?_
      show Steps p.tables e below (s₁.setTop (mkF m 1 #[.val (.long v1), .second] [(.long v1)])) _
      refine XS.bipush X0.here hx rfl (hb hby d23_1) ?_
      show Steps p.tables e below (s₁.setTop (mkF m 3 #[.val (.long v1), .second] [(.int (63 : Int32)), (.long v1)])) _
      refine XS.lshr X0.here hx rfl (hb hby d23_3) rfl ?_
      show Steps p.tables e below (s₁.setTop (mkF m 4 #[.val (.long v1), .second] [(.long (v1 >>> ((63 : Int32) &&& 0x3f).toInt64))])) _
      refine XS.lloadN X0.here hx rfl (hb hby d23_4) rfl ?_
      show Steps p.tables e below (s₁.setTop (mkF m 5 #[.val (.long v1), .second] [(.long v1), (.long (v1 >>> ((63 : Int32) &&& 0x3f).toInt64))])) _
      refine XS.lneg X0.here hx rfl (hb hby d23_5) rfl ?_
      show Steps p.tables e below (s₁.setTop (mkF m 6 #[.val (.long v1), .second] [(.long (-v1)), (.long (v1 >>> ((63 : Int32) &&& 0x3f).toInt64))])) _
      refine XS.bipush X0.here hx rfl (hb hby d23_6) ?_
      show Steps p.tables e below (s₁.setTop (mkF m 8 #[.val (.long v1), .second] [(.int (63 : Int32)), (.long (-v1)), (.long (v1 >>> ((63 : Int32) &&& 0x3f).toInt64))])) _
      refine XS.lushr X0.here hx rfl (hb hby d23_8) rfl ?_
      show Steps p.tables e below (s₁.setTop (mkF m 9 #[.val (.long v1), .second] [(.long (((-v1).toUInt64 >>> ((63 : Int32) &&& 0x3f).toInt64.toUInt64).toInt64)), (.long (v1 >>> ((63 : Int32) &&& 0x3f).toInt64))])) _
      refine XS.lor X0.here hx rfl (hb hby d23_9) rfl ?_
      show Steps p.tables e below (s₁.setTop (mkF m 10 #[.val (.long v1), .second] [(.long ((v1 >>> ((63 : Int32) &&& 0x3f).toInt64) ||| (((-v1).toUInt64 >>> ((63 : Int32) &&& 0x3f).toInt64.toUInt64).toInt64)))])) _
      refine XS.l2i X0.here hx rfl (hb hby d23_10) rfl ?_
      exact k)
  obtain ⟨fs, hr, hrun, hended, hW, hsame⟩ := X0.leave (v := some (.int (((v1 >>> ((63 : Int32) &&& 0x3f).toInt64) ||| (((-v1).toUInt64 >>> ((63 : Int32) &&& 0x3f).toInt64.toUInt64).toInt64)).toInt32))) (fun h => by rw [Bd.returns] at h; cases h)
  refine ⟨_, _, J1 _ ?_, hrun, hended, _, _, rfl, ?_, ⟨_, rfl⟩, hW, hsame.mono (by decide) (by decide)⟩
  · show Steps p.tables e below (s₁.setTop (mkF m 11 #[.val (.long v1), .second] [(.int (((v1 >>> ((63 : Int32) &&& 0x3f).toInt64) ||| (((-v1).toUInt64 >>> ((63 : Int32) &&& 0x3f).toInt64.toUInt64).toInt64)).toInt32))])) _
    exact retI X0 hx Bd.returns (hb hby d23_11) hr
  · show Q23 Z v1 h0 n0 _ s₁.heap _
    rw [e0]
    exact ⟨rfl, N0, rfl⟩
theorem d24_0 : decode jdk_29_method_61_code 0 = .ok (.lload_n 0, 1) := by decide +kernel
theorem d24_1 : decode jdk_29_method_61_code 1 = .ok (.lconst 0, 1) := by decide +kernel
theorem d24_2 : decode jdk_29_method_61_code 2 = .ok (.lcmp, 1) := by decide +kernel
theorem d24_3 : decode jdk_29_method_61_code 3 = .ok (.ifCond .ge 8, 3) := by decide +kernel
theorem d24_11 : decode jdk_29_method_61_code 11 = .ok (.lload_n 0, 1) := by decide +kernel
theorem d24_12 : decode jdk_29_method_61_code 12 = .ok (.lreturn, 1) := by decide +kernel
theorem ef_24_x (m : MethodId) (x0 : Int64) : entryFrame m #[(.long x0)] 2 = mkF m 0 #[.val (.long x0), .second] [] := by first | (simp [entryFrame, mkF, argsToLocals, Value.category]; done) | rfl
def Q24 (Z : State)  (h0 : Heap) (n0 : Nat) (v : Option Value) (h : Heap) (L : List Loc) : Prop := v = some (.long (1 : Int64)) ∧ Fr n0 L ∧ h = h0
set_option maxRecDepth 65536 in
set_option maxHeartbeats 40000000 in
theorem rm24 (l : Launch) (Z : State) (a0 : Array Value) (hw : ∀ d ∈ tables_1, d.before a0 Z = true) (ws : List Jvm.Cond)  (h0 : Heap) (n0 : Nat) (Z0 : n0 ≤ h0.size) :
    MetFree l (⟨"java/lang/Math", "abs", "(J)J"⟩ : MethodName) (head1 (Jvm.Cond.code (⟨"java/lang/Math", "abs", "(J)J"⟩ : MethodName) jdk_29_method_61_code 2 (some .long) :: ws) ({ frames := 0, cells := 0, slots := 0, locals := 0 } : Room)) (fun a U => a = #[(.long (1 : Int64))] ∧ Z.Warmed39 U.vm ∧ U.heap = h0) (fun _ _ _ _ _ => True) (fun _ U o U' => ∃ v L, o = .returned v ∧ Q24 Z  h0 n0 v U'.heap L ∧ FrameEnd U o U' L ({ frames := 0, cells := 0, slots := 0, locals := 0 } : Room).cells ({ frames := 0, cells := 0, slots := 0, locals := 0 } : Room).slots) := by
  refine MetFree.of_bodySF (Jvm.Free.JP.mathPlain rfl (by decide +kernel)) hisR ?_
  intro p e s m args below meth c s₁ Bd hml0 hP hK
  obtain ⟨rfl, hZ, hh⟩ := hP
  have hx := Bd.exec
  have hby := Bd.bytes
  have hml : c.maxLocals = 2 := hml0
  have hown : s.vm.findClass "java/lang/Math" = some m.cls := findClass_of_methodNamed Bd.named
  have hnm := (name_of_methodNamed Bd.named Bd.method).1
  have X0 : Stand p l e ({ frames := 0, cells := 0, slots := 0, locals := 0 } : Room) s m #[(.long (1 : Int64))] below meth c s₁ [] 0 0 := Stand.of_body Bd
  have e0 : s₁.heap = h0 := by rw [← hh, Bd.state]; rfl
  have N0 := Fr.nil n0
  have pre0 : ∀ t, Steps p.tables e below (s₁.setTop (mkF m 0 #[.val (.long (1 : Int64)), .second] [])) t → Steps p.tables e below (s₁.setTop (entryFrame m #[(.long (1 : Int64))] 2)) t := fun t k => castTop (ef_24_x m (1 : Int64)) k
  have J1 : ∀ t, Steps p.tables e below (s₁.setTop (mkF m 12 #[.val (.long (1 : Int64)), .second] [(.long (1 : Int64))])) t → Steps p.tables e below (s₁.setTop (entryFrame m #[(.long (1 : Int64))] 2)) t := fun t k => pre0 t (by
      show Steps p.tables e below (s₁.setTop (mkF m 0 #[.val (.long (1 : Int64)), .second] [])) _
      refine XS.lloadN X0.here hx rfl (hb hby d24_0) rfl ?_
      show Steps p.tables e below (s₁.setTop (mkF m 1 #[.val (.long (1 : Int64)), .second] [(.long (1 : Int64))])) _
      refine XS.lconst X0.here hx rfl (hb hby d24_1) ?_
      show Steps p.tables e below (s₁.setTop (mkF m 2 #[.val (.long (1 : Int64)), .second] [(.long (0 : Int64)), (.long (1 : Int64))])) _
      refine XS.lcmp X0.here hx rfl (hb hby d24_2) rfl ?_
      show Steps p.tables e below (s₁.setTop (mkF m 3 #[.val (.long (1 : Int64)), .second] [(.int (lcmpW (1 : Int64) (0 : Int64)))])) _
      refine XS.ifYes X0.here hx rfl (pc0 := 3) (pc' := 11) rfl (hb hby d24_3) rfl ((if0 _ _).trans (flt (by decide)).2.1) (by decide) (by decide) ?_
      show Steps p.tables e below (s₁.setTop (mkF m 11 #[.val (.long (1 : Int64)), .second] [])) _
      refine XS.lloadN X0.here hx rfl (hb hby d24_11) rfl ?_
      exact k)
  obtain ⟨fs, hr, hrun, hended, hW, hsame⟩ := X0.leave (v := some (.long (1 : Int64))) (fun h => by rw [Bd.returns] at h; cases h)
  refine ⟨_, _, J1 _ ?_, hrun, hended, _, _, rfl, ?_, ⟨_, rfl⟩, hW, hsame.mono (by decide) (by decide)⟩
  · show Steps p.tables e below (s₁.setTop (mkF m 12 #[.val (.long (1 : Int64)), .second] [(.long (1 : Int64))])) _
    exact retJ X0 hx Bd.returns (hb hby d24_12) hr
  · show Q24 Z  h0 n0 _ s₁.heap _
    rw [e0]
    exact ⟨rfl, N0, rfl⟩
theorem d25_0 : decode jdk_2097_method_34_code 0 = .ok (.lconst 0, 1) := by decide +kernel
theorem d25_1 : decode jdk_2097_method_34_code 1 = .ok (.lstore 4, 2) := by decide +kernel
theorem d25_3 : decode jdk_2097_method_34_code 3 = .ok (.aload_n 0, 1) := by decide +kernel
theorem d25_4 : decode jdk_2097_method_34_code 4 = .ok (.arraylength, 1) := by decide +kernel
theorem d25_5 : decode jdk_2097_method_34_code 5 = .ok (.istore 6, 2) := by decide +kernel
theorem d25_7 : decode jdk_2097_method_34_code 7 = .ok (.lload_n 1, 1) := by decide +kernel
theorem d25_8 : decode jdk_2097_method_34_code 8 = .ok (.bipush 32, 2) := by decide +kernel
theorem d25_10 : decode jdk_2097_method_34_code 10 = .ok (.lushr, 1) := by decide +kernel
theorem d25_11 : decode jdk_2097_method_34_code 11 = .ok (.l2i, 1) := by decide +kernel
theorem d25_12 : decode jdk_2097_method_34_code 12 = .ok (.istore 8, 2) := by decide +kernel
theorem d25_14 : decode jdk_2097_method_34_code 14 = .ok (.iload 8, 2) := by decide +kernel
theorem d25_16 : decode jdk_2097_method_34_code 16 = .ok (.ifCond .ne 36, 3) := by decide +kernel
theorem d25_19 : decode jdk_2097_method_34_code 19 = .ok (.iload 6, 2) := by decide +kernel
theorem d25_21 : decode jdk_2097_method_34_code 21 = .ok (.newarray .int, 2) := by decide +kernel
theorem d25_23 : decode jdk_2097_method_34_code 23 = .ok (.astore 7, 2) := by decide +kernel
theorem d25_25 : decode jdk_2097_method_34_code 25 = .ok (.aload_n 0, 1) := by decide +kernel
theorem d25_26 : decode jdk_2097_method_34_code 26 = .ok (.iinc 6 (-1), 3) := by decide +kernel
theorem d25_29 : decode jdk_2097_method_34_code 29 = .ok (.iload 6, 2) := by decide +kernel
theorem d25_31 : decode jdk_2097_method_34_code 31 = .ok (.iaload, 1) := by decide +kernel
theorem d25_32 : decode jdk_2097_method_34_code 32 = .ok (.i2l, 1) := by decide +kernel
theorem d25_33 : decode jdk_2097_method_34_code 33 = .ok (.ldc2_w 130, 3) := by decide +kernel
theorem d25_36 : decode jdk_2097_method_34_code 36 = .ok (.land, 1) := by decide +kernel
theorem d25_37 : decode jdk_2097_method_34_code 37 = .ok (.lload_n 1, 1) := by decide +kernel
theorem d25_38 : decode jdk_2097_method_34_code 38 = .ok (.ladd, 1) := by decide +kernel
theorem d25_39 : decode jdk_2097_method_34_code 39 = .ok (.lstore 4, 2) := by decide +kernel
theorem d25_41 : decode jdk_2097_method_34_code 41 = .ok (.aload 7, 2) := by decide +kernel
theorem d25_43 : decode jdk_2097_method_34_code 43 = .ok (.iload 6, 2) := by decide +kernel
theorem d25_45 : decode jdk_2097_method_34_code 45 = .ok (.lload 4, 2) := by decide +kernel
theorem d25_47 : decode jdk_2097_method_34_code 47 = .ok (.l2i, 1) := by decide +kernel
theorem d25_48 : decode jdk_2097_method_34_code 48 = .ok (.iastore, 1) := by decide +kernel
theorem d25_49 : decode jdk_2097_method_34_code 49 = .ok (.goto 116, 3) := by decide +kernel
theorem d25_165 : decode jdk_2097_method_34_code 165 = .ok (.lload 4, 2) := by decide +kernel
theorem d25_167 : decode jdk_2097_method_34_code 167 = .ok (.bipush 32, 2) := by decide +kernel
theorem d25_169 : decode jdk_2097_method_34_code 169 = .ok (.lushr, 1) := by decide +kernel
theorem d25_170 : decode jdk_2097_method_34_code 170 = .ok (.lconst 0, 1) := by decide +kernel
theorem d25_171 : decode jdk_2097_method_34_code 171 = .ok (.lcmp, 1) := by decide +kernel
theorem d25_172 : decode jdk_2097_method_34_code 172 = .ok (.ifCond .eq 7, 3) := by decide +kernel
theorem d25_175 : decode jdk_2097_method_34_code 175 = .ok (.iconst 1, 1) := by decide +kernel
theorem d25_176 : decode jdk_2097_method_34_code 176 = .ok (.goto 4, 3) := by decide +kernel
theorem d25_180 : decode jdk_2097_method_34_code 180 = .ok (.istore 9, 2) := by decide +kernel
theorem d25_182 : decode jdk_2097_method_34_code 182 = .ok (.iload 6, 2) := by decide +kernel
theorem d25_184 : decode jdk_2097_method_34_code 184 = .ok (.ifCond .le 36, 3) := by decide +kernel
theorem d25_187 : decode jdk_2097_method_34_code 187 = .ok (.iload 9, 2) := by decide +kernel
theorem d25_189 : decode jdk_2097_method_34_code 189 = .ok (.ifCond .eq 31, 3) := by decide +kernel
theorem d25_192 : decode jdk_2097_method_34_code 192 = .ok (.aload 7, 2) := by decide +kernel
theorem d25_194 : decode jdk_2097_method_34_code 194 = .ok (.iinc 6 (-1), 3) := by decide +kernel
theorem d25_197 : decode jdk_2097_method_34_code 197 = .ok (.iload 6, 2) := by decide +kernel
theorem d25_199 : decode jdk_2097_method_34_code 199 = .ok (.aload_n 0, 1) := by decide +kernel
theorem d25_200 : decode jdk_2097_method_34_code 200 = .ok (.iload 6, 2) := by decide +kernel
theorem d25_202 : decode jdk_2097_method_34_code 202 = .ok (.iaload, 1) := by decide +kernel
theorem d25_203 : decode jdk_2097_method_34_code 203 = .ok (.iconst 1, 1) := by decide +kernel
theorem d25_204 : decode jdk_2097_method_34_code 204 = .ok (.iadd, 1) := by decide +kernel
theorem d25_205 : decode jdk_2097_method_34_code 205 = .ok (.dup_x2, 1) := by decide +kernel
theorem d25_206 : decode jdk_2097_method_34_code 206 = .ok (.iastore, 1) := by decide +kernel
theorem d25_207 : decode jdk_2097_method_34_code 207 = .ok (.ifCond .ne 7, 3) := by decide +kernel
theorem d25_214 : decode jdk_2097_method_34_code 214 = .ok (.iconst 0, 1) := by decide +kernel
theorem d25_215 : decode jdk_2097_method_34_code 215 = .ok (.istore 9, 2) := by decide +kernel
theorem d25_217 : decode jdk_2097_method_34_code 217 = .ok (.goto (-35), 3) := by decide +kernel
theorem d25_220 : decode jdk_2097_method_34_code 220 = .ok (.iload 6, 2) := by decide +kernel
theorem d25_222 : decode jdk_2097_method_34_code 222 = .ok (.ifCond .le 18, 3) := by decide +kernel
theorem d25_240 : decode jdk_2097_method_34_code 240 = .ok (.iload 9, 2) := by decide +kernel
theorem d25_242 : decode jdk_2097_method_34_code 242 = .ok (.ifCond .eq 32, 3) := by decide +kernel
theorem d25_274 : decode jdk_2097_method_34_code 274 = .ok (.aload 7, 2) := by decide +kernel
theorem d25_276 : decode jdk_2097_method_34_code 276 = .ok (.areturn, 1) := by decide +kernel
theorem pn_25 : plainName "java/math/BigInteger" = true := by first | (simp [plainName, overriddenIn]; done) | decide +kernel
theorem ef_25_xx (m : MethodId) (x0 : Addr) (x1 : Int64) : entryFrame m #[(.ref x0), (.long x1)] 11 = mkF m 0 #[.val (.ref x0), .val (.long x1), .second, .unset, .unset, .unset, .unset, .unset, .unset, .unset, .unset] [] := by first | (simp [entryFrame, mkF, argsToLocals, Value.category]; done) | rfl
def Q25 (Z : State) (mg : Addr) (mcl : Cell) (h0 : Heap) (n0 : Nat) (v : Option Value) (h : Heap) (L : List Loc) : Prop := ∃ (m2 : Addr) (mcl' : Cell), v = some (.ref m2) ∧ Fr n0 L ∧ Keep h0 h [] ∧ (Arr Z h m2 mcl' .int) ∧ (mcl'.slots.size = 2) ∧ (mcl'.slots[0]? = some (.int (-2147483648 : Int32))) ∧ (mcl'.slots[1]? = some (.int (0 : Int32))) ∧ (h0.size ≤ m2)
set_option maxRecDepth 65536 in
set_option maxHeartbeats 40000000 in
theorem rm25 (l : Launch) (Z : State) (a0 : Array Value) (hw : ∀ d ∈ tables_1, d.before a0 Z = true) (ws : List Jvm.Cond) (mg : Addr) (mcl : Cell) (h0 : Heap) (n0 : Nat) (Z0 : n0 ≤ h0.size) (Ar_mg : Arr Z h0 mg mcl .int) (hmz : mcl.slots.size = 2) (hm0 : mcl.slots[0]? = some (.int (2147483647 : Int32))) (hm1 : mcl.slots[1]? = some (.int (-1 : Int32))) :
    MetFree l (⟨"java/math/BigInteger", "add", "([IJ)[I"⟩ : MethodName) (head1 (Jvm.Cond.code (⟨"java/math/BigInteger", "add", "([IJ)[I"⟩ : MethodName) jdk_2097_method_34_code 11 (some (.array .int)) :: ws) ({ frames := 0, cells := 1, slots := 2, locals := 0 } : Room)) (fun a U => a = #[(.ref mg), (.long (1 : Int64))] ∧ Z.Warmed39 U.vm ∧ U.heap = h0) (fun _ _ _ _ _ => True) (fun _ U o U' => ∃ v L, o = .returned v ∧ Q25 Z mg mcl h0 n0 v U'.heap L ∧ FrameEnd U o U' L ({ frames := 0, cells := 1, slots := 2, locals := 0 } : Room).cells ({ frames := 0, cells := 1, slots := 2, locals := 0 } : Room).slots) := by
  refine MetFree.of_bodySF (plainFor_of_name pn_25) hisR ?_
  intro p e s m args below meth c s₁ Bd hml0 hP hK
  obtain ⟨rfl, hZ, hh⟩ := hP
  have hx := Bd.exec
  have hby := Bd.bytes
  have hml : c.maxLocals = 11 := hml0
  have hown : s.vm.findClass "java/math/BigInteger" = some m.cls := findClass_of_methodNamed Bd.named
  have hnm := (name_of_methodNamed Bd.named Bd.method).1
  have X0 : Stand p l e ({ frames := 0, cells := 1, slots := 2, locals := 0 } : Room) s m #[(.ref mg), (.long (1 : Int64))] below meth c s₁ [] 0 0 := Stand.of_body Bd
  have e0 : s₁.heap = h0 := by rw [← hh, Bd.state]; rfl
  have N0 := Fr.nil n0
  have pre0 : ∀ t, Steps p.tables e below (s₁.setTop (mkF m 0 #[.val (.ref mg), .val (.long (1 : Int64)), .second, .unset, .unset, .unset, .unset, .unset, .unset, .unset, .unset] [])) t → Steps p.tables e below (s₁.setTop (entryFrame m #[(.ref mg), (.long (1 : Int64))] 11)) t := fun t k => castTop (ef_25_xx m mg (1 : Int64)) k
  have J1 : ∀ t, Steps p.tables e below (s₁.setTop (mkF m 12 #[.val (.ref mg), .val (.long (1 : Int64)), .second, .unset, .val (.long (0 : Int64)), .second, .val (.int (2 : Int32)), .unset, .unset, .unset, .unset] [(.int ((((1 : Int64).toUInt64 >>> ((32 : Int32) &&& 0x3f).toInt64.toUInt64).toInt64).toInt32))])) t → Steps p.tables e below (s₁.setTop (entryFrame m #[(.ref mg), (.long (1 : Int64))] 11)) t := fun t k => pre0 t (by
      show Steps p.tables e below (s₁.setTop (mkF m 0 #[.val (.ref mg), .val (.long (1 : Int64)), .second, .unset, .unset, .unset, .unset, .unset, .unset, .unset, .unset] [])) _
      refine XS.lconst X0.here hx rfl (hb hby d25_0) ?_
      show Steps p.tables e below (s₁.setTop (mkF m 1 #[.val (.ref mg), .val (.long (1 : Int64)), .second, .unset, .unset, .unset, .unset, .unset, .unset, .unset, .unset] [(.long (0 : Int64))])) _
      refine XS.lstore X0.here hx rfl (hb hby d25_1) rfl (l' := #[.val (.ref mg), .val (.long (1 : Int64)), .second, .unset, .val (.long (0 : Int64)), .second, .unset, .unset, .unset, .unset, .unset]) rfl ?_
      show Steps p.tables e below (s₁.setTop (mkF m 3 #[.val (.ref mg), .val (.long (1 : Int64)), .second, .unset, .val (.long (0 : Int64)), .second, .unset, .unset, .unset, .unset, .unset] [])) _
      refine XS.aloadN X0.here hx rfl (hb hby d25_3) rfl rfl ?_
      show Steps p.tables e below (s₁.setTop (mkF m 4 #[.val (.ref mg), .val (.long (1 : Int64)), .second, .unset, .val (.long (0 : Int64)), .second, .unset, .unset, .unset, .unset, .unset] [(.ref mg)])) _
      refine X0.arraylength hx (cell := mcl) (by rw [e0]; exact Ar_mg.1) (State.isArrayOf_alike hZ.alike Ar_mg.2.1) (g := (mkF m 4 #[.val (.ref mg), .val (.long (1 : Int64)), .second, .unset, .val (.long (0 : Int64)), .second, .unset, .unset, .unset, .unset, .unset] [(.ref mg)])) rfl (rest := []) rfl (hb hby d25_4) _ ?_
      rw [(show mcl.slots.size.toInt32 = (2 : Int32) from by rw [hmz]; rfl)]
      show Steps p.tables e below (s₁.setTop (mkF m 5 #[.val (.ref mg), .val (.long (1 : Int64)), .second, .unset, .val (.long (0 : Int64)), .second, .unset, .unset, .unset, .unset, .unset] [(.int (2 : Int32))])) _
      refine XS.istore X0.here hx rfl (hb hby d25_5) rfl (l' := #[.val (.ref mg), .val (.long (1 : Int64)), .second, .unset, .val (.long (0 : Int64)), .second, .val (.int (2 : Int32)), .unset, .unset, .unset, .unset]) rfl ?_
      show Steps p.tables e below (s₁.setTop (mkF m 7 #[.val (.ref mg), .val (.long (1 : Int64)), .second, .unset, .val (.long (0 : Int64)), .second, .val (.int (2 : Int32)), .unset, .unset, .unset, .unset] [])) _
      refine XS.lloadN X0.here hx rfl (hb hby d25_7) rfl ?_
      show Steps p.tables e below (s₁.setTop (mkF m 8 #[.val (.ref mg), .val (.long (1 : Int64)), .second, .unset, .val (.long (0 : Int64)), .second, .val (.int (2 : Int32)), .unset, .unset, .unset, .unset] [(.long (1 : Int64))])) _
      refine XS.bipush X0.here hx rfl (hb hby d25_8) ?_
      show Steps p.tables e below (s₁.setTop (mkF m 10 #[.val (.ref mg), .val (.long (1 : Int64)), .second, .unset, .val (.long (0 : Int64)), .second, .val (.int (2 : Int32)), .unset, .unset, .unset, .unset] [(.int (32 : Int32)), (.long (1 : Int64))])) _
      refine XS.lushr X0.here hx rfl (hb hby d25_10) rfl ?_
      show Steps p.tables e below (s₁.setTop (mkF m 11 #[.val (.ref mg), .val (.long (1 : Int64)), .second, .unset, .val (.long (0 : Int64)), .second, .val (.int (2 : Int32)), .unset, .unset, .unset, .unset] [(.long (((1 : Int64).toUInt64 >>> ((32 : Int32) &&& 0x3f).toInt64.toUInt64).toInt64))])) _
      refine XS.l2i X0.here hx rfl (hb hby d25_11) rfl ?_
      exact k)
  have J2 : ∀ t, Steps p.tables e below (s₁.setTop (mkF m 12 #[.val (.ref mg), .val (.long (1 : Int64)), .second, .unset, .val (.long (0 : Int64)), .second, .val (.int (2 : Int32)), .unset, .unset, .unset, .unset] [(.int (0 : Int32))])) t → Steps p.tables e below (s₁.setTop (entryFrame m #[(.ref mg), (.long (1 : Int64))] 11)) t := fun t k => J1 t (by rw [(by decide : ((((1 : Int64).toUInt64 >>> ((32 : Int32) &&& 0x3f).toInt64.toUInt64).toInt64).toInt32) = (0 : Int32))]; exact k)
  have J3 : ∀ t, Steps p.tables e below (s₁.setTop (mkF m 21 #[.val (.ref mg), .val (.long (1 : Int64)), .second, .unset, .val (.long (0 : Int64)), .second, .val (.int (2 : Int32)), .unset, .val (.int (0 : Int32)), .unset, .unset] [(.int (2 : Int32))])) t → Steps p.tables e below (s₁.setTop (entryFrame m #[(.ref mg), (.long (1 : Int64))] 11)) t := fun t k => J2 t (by
      show Steps p.tables e below (s₁.setTop (mkF m 12 #[.val (.ref mg), .val (.long (1 : Int64)), .second, .unset, .val (.long (0 : Int64)), .second, .val (.int (2 : Int32)), .unset, .unset, .unset, .unset] [(.int (0 : Int32))])) _
      refine XS.istore X0.here hx rfl (hb hby d25_12) rfl (l' := #[.val (.ref mg), .val (.long (1 : Int64)), .second, .unset, .val (.long (0 : Int64)), .second, .val (.int (2 : Int32)), .unset, .val (.int (0 : Int32)), .unset, .unset]) rfl ?_
      show Steps p.tables e below (s₁.setTop (mkF m 14 #[.val (.ref mg), .val (.long (1 : Int64)), .second, .unset, .val (.long (0 : Int64)), .second, .val (.int (2 : Int32)), .unset, .val (.int (0 : Int32)), .unset, .unset] [])) _
      refine XS.iload X0.here hx rfl (hb hby d25_14) rfl ?_
      show Steps p.tables e below (s₁.setTop (mkF m 16 #[.val (.ref mg), .val (.long (1 : Int64)), .second, .unset, .val (.long (0 : Int64)), .second, .val (.int (2 : Int32)), .unset, .val (.int (0 : Int32)), .unset, .unset] [(.int (0 : Int32))])) _
      refine XS.ifNo X0.here hx rfl (hb hby d25_16) rfl ((if0 _ _).trans (teq (by decide)).2) ?_
      show Steps p.tables e below (s₁.setTop (mkF m 19 #[.val (.ref mg), .val (.long (1 : Int64)), .second, .unset, .val (.long (0 : Int64)), .second, .val (.int (2 : Int32)), .unset, .val (.int (0 : Int32)), .unset, .unset] [])) _
      refine XS.iload X0.here hx rfl (hb hby d25_19) rfl ?_
      exact k)
  obtain ⟨T4, h4, k4, X4, e4, E4, A4, st4⟩ := newP X0 hx hZ (hw _ (List.mem_of_getElem? (i := 158) rfl)) e0 (g := (mkF m 21 #[.val (.ref mg), .val (.long (1 : Int64)), .second, .unset, .val (.long (0 : Int64)), .second, .val (.int (2 : Int32)), .unset, .val (.int (0 : Int32)), .unset, .unset] [(.int (2 : Int32))])) rfl (hb hby d25_21) rfl (by decide) (cap := 2) (by decide) (by decide) (by decide) (by decide)
  obtain ⟨b4, g4⟩ : ∃ z, z = h0.size := ⟨_, rfl⟩
  rw [← g4] at A4 st4
  obtain ⟨cl4, hcl4⟩ : ∃ z, z = newA k4 .int (2 : Int32) := ⟨_, rfl⟩
  have Aw4 : Arr Z h4 b4 cl4 .int := by rw [hcl4]; exact A4
  have J5 : ∀ t, Steps p.tables e below (T4.setTop (mkF m 23 #[.val (.ref mg), .val (.long (1 : Int64)), .second, .unset, .val (.long (0 : Int64)), .second, .val (.int (2 : Int32)), .unset, .val (.int (0 : Int32)), .unset, .unset] [(.ref b4)])) t → Steps p.tables e below (s₁.setTop (entryFrame m #[(.ref mg), (.long (1 : Int64))] 11)) t := fun t k => J3 t (st4 t k)
  have ne6 : mg ≠ b4 := Nat.ne_of_lt (Nat.lt_of_lt_of_le Ar_mg.lt (Nat.le_of_eq g4.symm))
  have ge7 : n0 ≤ b4 := Nat.le_trans Z0 (Nat.le_of_eq g4.symm)
  have sz8 : h0.size ≤ b4 := Nat.le_trans (Keep.refl h0 []).1 (Nat.le_of_eq g4.symm)
  have Z9 : n0 ≤ h4.size := Nat.le_trans Z0 E4.1
  have KK10 : Keep h0 h4 [] := (Keep.refl h0 []).ext E4
  have hS0 : cl4.slots.size = 2 := by rw [hcl4, sz_new]; decide
  have J11 : ∀ t, Steps p.tables e below (T4.setTop (mkF m 29 #[.val (.ref mg), .val (.long (1 : Int64)), .second, .unset, .val (.long (0 : Int64)), .second, .val (.int ((2 : Int32) + (-1 : Int32))), .val (.ref b4), .val (.int (0 : Int32)), .unset, .unset] [(.ref mg)])) t → Steps p.tables e below (s₁.setTop (entryFrame m #[(.ref mg), (.long (1 : Int64))] 11)) t := fun t k => J5 t (by
      show Steps p.tables e below (T4.setTop (mkF m 23 #[.val (.ref mg), .val (.long (1 : Int64)), .second, .unset, .val (.long (0 : Int64)), .second, .val (.int (2 : Int32)), .unset, .val (.int (0 : Int32)), .unset, .unset] [(.ref b4)])) _
      refine XS.astore X4.here hx rfl (hb hby d25_23) rfl rfl (l' := #[.val (.ref mg), .val (.long (1 : Int64)), .second, .unset, .val (.long (0 : Int64)), .second, .val (.int (2 : Int32)), .val (.ref b4), .val (.int (0 : Int32)), .unset, .unset]) rfl ?_
      show Steps p.tables e below (T4.setTop (mkF m 25 #[.val (.ref mg), .val (.long (1 : Int64)), .second, .unset, .val (.long (0 : Int64)), .second, .val (.int (2 : Int32)), .val (.ref b4), .val (.int (0 : Int32)), .unset, .unset] [])) _
      refine XS.aloadN X4.here hx rfl (hb hby d25_25) rfl rfl ?_
      show Steps p.tables e below (T4.setTop (mkF m 26 #[.val (.ref mg), .val (.long (1 : Int64)), .second, .unset, .val (.long (0 : Int64)), .second, .val (.int (2 : Int32)), .val (.ref b4), .val (.int (0 : Int32)), .unset, .unset] [(.ref mg)])) _
      refine XS.iinc X4.here hx rfl (hb hby d25_26) rfl (l' := #[.val (.ref mg), .val (.long (1 : Int64)), .second, .unset, .val (.long (0 : Int64)), .second, .val (.int ((2 : Int32) + (-1 : Int32))), .val (.ref b4), .val (.int (0 : Int32)), .unset, .unset]) rfl ?_
      exact k)
  have J12 : ∀ t, Steps p.tables e below (T4.setTop (mkF m 29 #[.val (.ref mg), .val (.long (1 : Int64)), .second, .unset, .val (.long (0 : Int64)), .second, .val (.int (1 : Int32)), .val (.ref b4), .val (.int (0 : Int32)), .unset, .unset] [(.ref mg)])) t → Steps p.tables e below (s₁.setTop (entryFrame m #[(.ref mg), (.long (1 : Int64))] 11)) t := fun t k => J11 t (by rw [(by decide : ((2 : Int32) + (-1 : Int32)) = (1 : Int32))]; exact k)
  have J13 : ∀ t, Steps p.tables e below (T4.setTop (mkF m 31 #[.val (.ref mg), .val (.long (1 : Int64)), .second, .unset, .val (.long (0 : Int64)), .second, .val (.int (1 : Int32)), .val (.ref b4), .val (.int (0 : Int32)), .unset, .unset] [(.int (1 : Int32)), (.ref mg)])) t → Steps p.tables e below (s₁.setTop (entryFrame m #[(.ref mg), (.long (1 : Int64))] 11)) t := fun t k => J12 t (by
      show Steps p.tables e below (T4.setTop (mkF m 29 #[.val (.ref mg), .val (.long (1 : Int64)), .second, .unset, .val (.long (0 : Int64)), .second, .val (.int (1 : Int32)), .val (.ref b4), .val (.int (0 : Int32)), .unset, .unset] [(.ref mg)])) _
      refine XS.iload X4.here hx rfl (hb hby d25_29) rfl ?_
      exact k)
  have f14 := Ar_mg.ext E4
  have J15 : ∀ t, Steps p.tables e below (T4.setTop (mkF m 39 #[.val (.ref mg), .val (.long (1 : Int64)), .second, .unset, .val (.long (0 : Int64)), .second, .val (.int (1 : Int32)), .val (.ref b4), .val (.int (0 : Int32)), .unset, .unset] [(.long ((((-1 : Int32).toInt64) &&& (4294967295 : Int64)) + (1 : Int64)))])) t → Steps p.tables e below (s₁.setTop (entryFrame m #[(.ref mg), (.long (1 : Int64))] 11)) t := fun t k => J13 t (by
      show Steps p.tables e below (T4.setTop (mkF m 31 #[.val (.ref mg), .val (.long (1 : Int64)), .second, .unset, .val (.long (0 : Int64)), .second, .val (.int (1 : Int32)), .val (.ref b4), .val (.int (0 : Int32)), .unset, .unset] [(.int (1 : Int32)), (.ref mg)])) _
      refine X4.iaload hx (j := (1 : Int32)) (v := (.int (-1 : Int32))) (by rw [e4]; exact f14.1) (State.isArrayOf_alike hZ.alike f14.2.1) f14.2.2 (own_in hmz (by decide) (by decide)) (own_at (by decide) hm1) (g := (mkF m 31 #[.val (.ref mg), .val (.long (1 : Int64)), .second, .unset, .val (.long (0 : Int64)), .second, .val (.int (1 : Int32)), .val (.ref b4), .val (.int (0 : Int32)), .unset, .unset] [(.int (1 : Int32)), (.ref mg)])) rfl rfl (hb hby d25_31) _ ?_
      show Steps p.tables e below (T4.setTop (mkF m 32 #[.val (.ref mg), .val (.long (1 : Int64)), .second, .unset, .val (.long (0 : Int64)), .second, .val (.int (1 : Int32)), .val (.ref b4), .val (.int (0 : Int32)), .unset, .unset] [(.int (-1 : Int32))])) _
      refine XS.i2l X4.here hx rfl (hb hby d25_32) rfl ?_
      show Steps p.tables e below (T4.setTop (mkF m 33 #[.val (.ref mg), .val (.long (1 : Int64)), .second, .unset, .val (.long (0 : Int64)), .second, .val (.int (1 : Int32)), .val (.ref b4), .val (.int (0 : Int32)), .unset, .unset] [(.long ((-1 : Int32).toInt64))])) _
      refine X4.ldc2Long hx hown (mvT hZ (hw _ (List.mem_of_getElem? (i := 176) rfl))) (g := (mkF m 33 #[.val (.ref mg), .val (.long (1 : Int64)), .second, .unset, .val (.long (0 : Int64)), .second, .val (.int (1 : Int32)), .val (.ref b4), .val (.int (0 : Int32)), .unset, .unset] [(.long ((-1 : Int32).toInt64))])) rfl (hb hby d25_33) _ ?_
      show Steps p.tables e below (T4.setTop (mkF m 36 #[.val (.ref mg), .val (.long (1 : Int64)), .second, .unset, .val (.long (0 : Int64)), .second, .val (.int (1 : Int32)), .val (.ref b4), .val (.int (0 : Int32)), .unset, .unset] [(.long (4294967295 : Int64)), (.long ((-1 : Int32).toInt64))])) _
      refine XS.land X4.here hx rfl (hb hby d25_36) rfl ?_
      show Steps p.tables e below (T4.setTop (mkF m 37 #[.val (.ref mg), .val (.long (1 : Int64)), .second, .unset, .val (.long (0 : Int64)), .second, .val (.int (1 : Int32)), .val (.ref b4), .val (.int (0 : Int32)), .unset, .unset] [(.long (((-1 : Int32).toInt64) &&& (4294967295 : Int64)))])) _
      refine XS.lloadN X4.here hx rfl (hb hby d25_37) rfl ?_
      show Steps p.tables e below (T4.setTop (mkF m 38 #[.val (.ref mg), .val (.long (1 : Int64)), .second, .unset, .val (.long (0 : Int64)), .second, .val (.int (1 : Int32)), .val (.ref b4), .val (.int (0 : Int32)), .unset, .unset] [(.long (1 : Int64)), (.long (((-1 : Int32).toInt64) &&& (4294967295 : Int64)))])) _
      refine XS.ladd X4.here hx rfl (hb hby d25_38) rfl ?_
      exact k)
  have J16 : ∀ t, Steps p.tables e below (T4.setTop (mkF m 39 #[.val (.ref mg), .val (.long (1 : Int64)), .second, .unset, .val (.long (0 : Int64)), .second, .val (.int (1 : Int32)), .val (.ref b4), .val (.int (0 : Int32)), .unset, .unset] [(.long (4294967296 : Int64))])) t → Steps p.tables e below (s₁.setTop (entryFrame m #[(.ref mg), (.long (1 : Int64))] 11)) t := fun t k => J15 t (by rw [(by decide : ((((-1 : Int32).toInt64) &&& (4294967295 : Int64)) + (1 : Int64)) = (4294967296 : Int64))]; exact k)
  have J17 : ∀ t, Steps p.tables e below (T4.setTop (mkF m 48 #[.val (.ref mg), .val (.long (1 : Int64)), .second, .unset, .val (.long (4294967296 : Int64)), .second, .val (.int (1 : Int32)), .val (.ref b4), .val (.int (0 : Int32)), .unset, .unset] [(.int ((4294967296 : Int64).toInt32)), (.int (1 : Int32)), (.ref b4)])) t → Steps p.tables e below (s₁.setTop (entryFrame m #[(.ref mg), (.long (1 : Int64))] 11)) t := fun t k => J16 t (by
      show Steps p.tables e below (T4.setTop (mkF m 39 #[.val (.ref mg), .val (.long (1 : Int64)), .second, .unset, .val (.long (0 : Int64)), .second, .val (.int (1 : Int32)), .val (.ref b4), .val (.int (0 : Int32)), .unset, .unset] [(.long (4294967296 : Int64))])) _
      refine XS.lstore X4.here hx rfl (hb hby d25_39) rfl (l' := #[.val (.ref mg), .val (.long (1 : Int64)), .second, .unset, .val (.long (4294967296 : Int64)), .second, .val (.int (1 : Int32)), .val (.ref b4), .val (.int (0 : Int32)), .unset, .unset]) rfl ?_
      show Steps p.tables e below (T4.setTop (mkF m 41 #[.val (.ref mg), .val (.long (1 : Int64)), .second, .unset, .val (.long (4294967296 : Int64)), .second, .val (.int (1 : Int32)), .val (.ref b4), .val (.int (0 : Int32)), .unset, .unset] [])) _
      refine XS.aload X4.here hx rfl (hb hby d25_41) rfl rfl ?_
      show Steps p.tables e below (T4.setTop (mkF m 43 #[.val (.ref mg), .val (.long (1 : Int64)), .second, .unset, .val (.long (4294967296 : Int64)), .second, .val (.int (1 : Int32)), .val (.ref b4), .val (.int (0 : Int32)), .unset, .unset] [(.ref b4)])) _
      refine XS.iload X4.here hx rfl (hb hby d25_43) rfl ?_
      show Steps p.tables e below (T4.setTop (mkF m 45 #[.val (.ref mg), .val (.long (1 : Int64)), .second, .unset, .val (.long (4294967296 : Int64)), .second, .val (.int (1 : Int32)), .val (.ref b4), .val (.int (0 : Int32)), .unset, .unset] [(.int (1 : Int32)), (.ref b4)])) _
      refine XS.lload X4.here hx rfl (hb hby d25_45) rfl ?_
      show Steps p.tables e below (T4.setTop (mkF m 47 #[.val (.ref mg), .val (.long (1 : Int64)), .second, .unset, .val (.long (4294967296 : Int64)), .second, .val (.int (1 : Int32)), .val (.ref b4), .val (.int (0 : Int32)), .unset, .unset] [(.long (4294967296 : Int64)), (.int (1 : Int32)), (.ref b4)])) _
      refine XS.l2i X4.here hx rfl (hb hby d25_47) rfl ?_
      exact k)
  have J18 : ∀ t, Steps p.tables e below (T4.setTop (mkF m 48 #[.val (.ref mg), .val (.long (1 : Int64)), .second, .unset, .val (.long (4294967296 : Int64)), .second, .val (.int (1 : Int32)), .val (.ref b4), .val (.int (0 : Int32)), .unset, .unset] [(.int (0 : Int32)), (.int (1 : Int32)), (.ref b4)])) t → Steps p.tables e below (s₁.setTop (entryFrame m #[(.ref mg), (.long (1 : Int64))] 11)) t := fun t k => J17 t (by rw [(by decide : ((4294967296 : Int64).toInt32) = (0 : Int32))]; exact k)
  obtain ⟨T19, h19, X19, e19, W19, st19⟩ := stI X4 hx hZ e4 Aw4 (j := (1 : Int32)) (own_in hS0 (by decide) (by decide)) (g := (mkF m 48 #[.val (.ref mg), .val (.long (1 : Int64)), .second, .unset, .val (.long (4294967296 : Int64)), .second, .val (.int (1 : Int32)), .val (.ref b4), .val (.int (0 : Int32)), .unset, .unset] [(.int (0 : Int32)), (.int (1 : Int32)), (.ref b4)])) rfl rfl (hb hby d25_48)
  have J20 : ∀ t, Steps p.tables e below (T19.setTop (mkF m 49 #[.val (.ref mg), .val (.long (1 : Int64)), .second, .unset, .val (.long (4294967296 : Int64)), .second, .val (.int (1 : Int32)), .val (.ref b4), .val (.int (0 : Int32)), .unset, .unset] [])) t → Steps p.tables e below (s₁.setTop (entryFrame m #[(.ref mg), (.long (1 : Int64))] 11)) t := fun t k => J18 t (st19 t k)
  have Z21 : n0 ≤ h19.size := Nat.le_trans Z9 (Keep.of_wr W19).1
  have KK22 : Keep h0 h19 [] := KK10.wr W19 (Or.inr sz8)
  have N23 := Fr.snoc X19 N0 ge7
  obtain ⟨cl19, hcl19⟩ : ∃ z, z = cl4.setSlot ((1 : Int32)).toNatClampNeg (.int (0 : Int32)) := ⟨_, rfl⟩
  have Aw19 : Arr Z h19 b4 cl19 .int := by rw [hcl19]; exact Aw4.same W19
  have hS1 := own_ssz hcl19 hS0
  have J24 : ∀ t, Steps p.tables e below (T19.setTop (mkF m 197 #[.val (.ref mg), .val (.long (1 : Int64)), .second, .unset, .val (.long (4294967296 : Int64)), .second, .val (.int ((1 : Int32) + (-1 : Int32))), .val (.ref b4), .val (.int (0 : Int32)), .val (.int (1 : Int32)), .unset] [(.ref b4)])) t → Steps p.tables e below (s₁.setTop (entryFrame m #[(.ref mg), (.long (1 : Int64))] 11)) t := fun t k => J20 t (by
      show Steps p.tables e below (T19.setTop (mkF m 49 #[.val (.ref mg), .val (.long (1 : Int64)), .second, .unset, .val (.long (4294967296 : Int64)), .second, .val (.int (1 : Int32)), .val (.ref b4), .val (.int (0 : Int32)), .unset, .unset] [])) _
      refine XS.goto X19.here hx rfl (pc0 := 49) (pc' := 165) rfl (hb hby d25_49) (by decide) (by decide) ?_
      show Steps p.tables e below (T19.setTop (mkF m 165 #[.val (.ref mg), .val (.long (1 : Int64)), .second, .unset, .val (.long (4294967296 : Int64)), .second, .val (.int (1 : Int32)), .val (.ref b4), .val (.int (0 : Int32)), .unset, .unset] [])) _
      refine XS.lload X19.here hx rfl (hb hby d25_165) rfl ?_
      show Steps p.tables e below (T19.setTop (mkF m 167 #[.val (.ref mg), .val (.long (1 : Int64)), .second, .unset, .val (.long (4294967296 : Int64)), .second, .val (.int (1 : Int32)), .val (.ref b4), .val (.int (0 : Int32)), .unset, .unset] [(.long (4294967296 : Int64))])) _
      refine XS.bipush X19.here hx rfl (hb hby d25_167) ?_
      show Steps p.tables e below (T19.setTop (mkF m 169 #[.val (.ref mg), .val (.long (1 : Int64)), .second, .unset, .val (.long (4294967296 : Int64)), .second, .val (.int (1 : Int32)), .val (.ref b4), .val (.int (0 : Int32)), .unset, .unset] [(.int (32 : Int32)), (.long (4294967296 : Int64))])) _
      refine XS.lushr X19.here hx rfl (hb hby d25_169) rfl ?_
      show Steps p.tables e below (T19.setTop (mkF m 170 #[.val (.ref mg), .val (.long (1 : Int64)), .second, .unset, .val (.long (4294967296 : Int64)), .second, .val (.int (1 : Int32)), .val (.ref b4), .val (.int (0 : Int32)), .unset, .unset] [(.long (((4294967296 : Int64).toUInt64 >>> ((32 : Int32) &&& 0x3f).toInt64.toUInt64).toInt64))])) _
      refine XS.lconst X19.here hx rfl (hb hby d25_170) ?_
      show Steps p.tables e below (T19.setTop (mkF m 171 #[.val (.ref mg), .val (.long (1 : Int64)), .second, .unset, .val (.long (4294967296 : Int64)), .second, .val (.int (1 : Int32)), .val (.ref b4), .val (.int (0 : Int32)), .unset, .unset] [(.long (0 : Int64)), (.long (((4294967296 : Int64).toUInt64 >>> ((32 : Int32) &&& 0x3f).toInt64.toUInt64).toInt64))])) _
      refine XS.lcmp X19.here hx rfl (hb hby d25_171) rfl ?_
      show Steps p.tables e below (T19.setTop (mkF m 172 #[.val (.ref mg), .val (.long (1 : Int64)), .second, .unset, .val (.long (4294967296 : Int64)), .second, .val (.int (1 : Int32)), .val (.ref b4), .val (.int (0 : Int32)), .unset, .unset] [(.int (lcmpW (((4294967296 : Int64).toUInt64 >>> ((32 : Int32) &&& 0x3f).toInt64.toUInt64).toInt64) (0 : Int64)))])) _
      refine XS.ifNo X19.here hx rfl (hb hby d25_172) rfl ((if0 _ _).trans (feq (by decide)).1) ?_
      show Steps p.tables e below (T19.setTop (mkF m 175 #[.val (.ref mg), .val (.long (1 : Int64)), .second, .unset, .val (.long (4294967296 : Int64)), .second, .val (.int (1 : Int32)), .val (.ref b4), .val (.int (0 : Int32)), .unset, .unset] [])) _
      refine XS.iconst X19.here hx rfl (hb hby d25_175) ?_
      show Steps p.tables e below (T19.setTop (mkF m 176 #[.val (.ref mg), .val (.long (1 : Int64)), .second, .unset, .val (.long (4294967296 : Int64)), .second, .val (.int (1 : Int32)), .val (.ref b4), .val (.int (0 : Int32)), .unset, .unset] [(.int (1 : Int32))])) _
      refine XS.goto X19.here hx rfl (pc0 := 176) (pc' := 180) rfl (hb hby d25_176) (by decide) (by decide) ?_
      show Steps p.tables e below (T19.setTop (mkF m 180 #[.val (.ref mg), .val (.long (1 : Int64)), .second, .unset, .val (.long (4294967296 : Int64)), .second, .val (.int (1 : Int32)), .val (.ref b4), .val (.int (0 : Int32)), .unset, .unset] [(.int (1 : Int32))])) _
      refine XS.istore X19.here hx rfl (hb hby d25_180) rfl (l' := #[.val (.ref mg), .val (.long (1 : Int64)), .second, .unset, .val (.long (4294967296 : Int64)), .second, .val (.int (1 : Int32)), .val (.ref b4), .val (.int (0 : Int32)), .val (.int (1 : Int32)), .unset]) rfl ?_
      show Steps p.tables e below (T19.setTop (mkF m 182 #[.val (.ref mg), .val (.long (1 : Int64)), .second, .unset, .val (.long (4294967296 : Int64)), .second, .val (.int (1 : Int32)), .val (.ref b4), .val (.int (0 : Int32)), .val (.int (1 : Int32)), .unset] [])) _
      refine XS.iload X19.here hx rfl (hb hby d25_182) rfl ?_
      show Steps p.tables e below (T19.setTop (mkF m 184 #[.val (.ref mg), .val (.long (1 : Int64)), .second, .unset, .val (.long (4294967296 : Int64)), .second, .val (.int (1 : Int32)), .val (.ref b4), .val (.int (0 : Int32)), .val (.int (1 : Int32)), .unset] [(.int (1 : Int32))])) _
      refine XS.ifNo X19.here hx rfl (hb hby d25_184) rfl ((if0 _ _).trans (tlt (by decide)).2.2.2) ?_
      show Steps p.tables e below (T19.setTop (mkF m 187 #[.val (.ref mg), .val (.long (1 : Int64)), .second, .unset, .val (.long (4294967296 : Int64)), .second, .val (.int (1 : Int32)), .val (.ref b4), .val (.int (0 : Int32)), .val (.int (1 : Int32)), .unset] [])) _
      refine XS.iload X19.here hx rfl (hb hby d25_187) rfl ?_
      show Steps p.tables e below (T19.setTop (mkF m 189 #[.val (.ref mg), .val (.long (1 : Int64)), .second, .unset, .val (.long (4294967296 : Int64)), .second, .val (.int (1 : Int32)), .val (.ref b4), .val (.int (0 : Int32)), .val (.int (1 : Int32)), .unset] [(.int (1 : Int32))])) _
      refine XS.ifNo X19.here hx rfl (hb hby d25_189) rfl ((if0 _ _).trans (feq (by decide)).1) ?_
      show Steps p.tables e below (T19.setTop (mkF m 192 #[.val (.ref mg), .val (.long (1 : Int64)), .second, .unset, .val (.long (4294967296 : Int64)), .second, .val (.int (1 : Int32)), .val (.ref b4), .val (.int (0 : Int32)), .val (.int (1 : Int32)), .unset] [])) _
      refine XS.aload X19.here hx rfl (hb hby d25_192) rfl rfl ?_
      show Steps p.tables e below (T19.setTop (mkF m 194 #[.val (.ref mg), .val (.long (1 : Int64)), .second, .unset, .val (.long (4294967296 : Int64)), .second, .val (.int (1 : Int32)), .val (.ref b4), .val (.int (0 : Int32)), .val (.int (1 : Int32)), .unset] [(.ref b4)])) _
      refine XS.iinc X19.here hx rfl (hb hby d25_194) rfl (l' := #[.val (.ref mg), .val (.long (1 : Int64)), .second, .unset, .val (.long (4294967296 : Int64)), .second, .val (.int ((1 : Int32) + (-1 : Int32))), .val (.ref b4), .val (.int (0 : Int32)), .val (.int (1 : Int32)), .unset]) rfl ?_
      exact k)
  have J25 : ∀ t, Steps p.tables e below (T19.setTop (mkF m 197 #[.val (.ref mg), .val (.long (1 : Int64)), .second, .unset, .val (.long (4294967296 : Int64)), .second, .val (.int (0 : Int32)), .val (.ref b4), .val (.int (0 : Int32)), .val (.int (1 : Int32)), .unset] [(.ref b4)])) t → Steps p.tables e below (s₁.setTop (entryFrame m #[(.ref mg), (.long (1 : Int64))] 11)) t := fun t k => J24 t (by rw [(by decide : ((1 : Int32) + (-1 : Int32)) = (0 : Int32))]; exact k)
  have J26 : ∀ t, Steps p.tables e below (T19.setTop (mkF m 202 #[.val (.ref mg), .val (.long (1 : Int64)), .second, .unset, .val (.long (4294967296 : Int64)), .second, .val (.int (0 : Int32)), .val (.ref b4), .val (.int (0 : Int32)), .val (.int (1 : Int32)), .unset] [(.int (0 : Int32)), (.ref mg), (.int (0 : Int32)), (.ref b4)])) t → Steps p.tables e below (s₁.setTop (entryFrame m #[(.ref mg), (.long (1 : Int64))] 11)) t := fun t k => J25 t (by
      show Steps p.tables e below (T19.setTop (mkF m 197 #[.val (.ref mg), .val (.long (1 : Int64)), .second, .unset, .val (.long (4294967296 : Int64)), .second, .val (.int (0 : Int32)), .val (.ref b4), .val (.int (0 : Int32)), .val (.int (1 : Int32)), .unset] [(.ref b4)])) _
      refine XS.iload X19.here hx rfl (hb hby d25_197) rfl ?_
      show Steps p.tables e below (T19.setTop (mkF m 199 #[.val (.ref mg), .val (.long (1 : Int64)), .second, .unset, .val (.long (4294967296 : Int64)), .second, .val (.int (0 : Int32)), .val (.ref b4), .val (.int (0 : Int32)), .val (.int (1 : Int32)), .unset] [(.int (0 : Int32)), (.ref b4)])) _
      refine XS.aloadN X19.here hx rfl (hb hby d25_199) rfl rfl ?_
      show Steps p.tables e below (T19.setTop (mkF m 200 #[.val (.ref mg), .val (.long (1 : Int64)), .second, .unset, .val (.long (4294967296 : Int64)), .second, .val (.int (0 : Int32)), .val (.ref b4), .val (.int (0 : Int32)), .val (.int (1 : Int32)), .unset] [(.ref mg), (.int (0 : Int32)), (.ref b4)])) _
      refine XS.iload X19.here hx rfl (hb hby d25_200) rfl ?_
      exact k)
  have f27 := f14.other W19 ne6
  have J28 : ∀ t, Steps p.tables e below (T19.setTop (mkF m 205 #[.val (.ref mg), .val (.long (1 : Int64)), .second, .unset, .val (.long (4294967296 : Int64)), .second, .val (.int (0 : Int32)), .val (.ref b4), .val (.int (0 : Int32)), .val (.int (1 : Int32)), .unset] [(.int ((2147483647 : Int32) + (1 : Int32))), (.int (0 : Int32)), (.ref b4)])) t → Steps p.tables e below (s₁.setTop (entryFrame m #[(.ref mg), (.long (1 : Int64))] 11)) t := fun t k => J26 t (by
      show Steps p.tables e below (T19.setTop (mkF m 202 #[.val (.ref mg), .val (.long (1 : Int64)), .second, .unset, .val (.long (4294967296 : Int64)), .second, .val (.int (0 : Int32)), .val (.ref b4), .val (.int (0 : Int32)), .val (.int (1 : Int32)), .unset] [(.int (0 : Int32)), (.ref mg), (.int (0 : Int32)), (.ref b4)])) _
      refine X19.iaload hx (j := (0 : Int32)) (v := (.int (2147483647 : Int32))) (by rw [e19]; exact f27.1) (State.isArrayOf_alike hZ.alike f27.2.1) f27.2.2 (own_in hmz (by decide) (by decide)) (own_at (by decide) hm0) (g := (mkF m 202 #[.val (.ref mg), .val (.long (1 : Int64)), .second, .unset, .val (.long (4294967296 : Int64)), .second, .val (.int (0 : Int32)), .val (.ref b4), .val (.int (0 : Int32)), .val (.int (1 : Int32)), .unset] [(.int (0 : Int32)), (.ref mg), (.int (0 : Int32)), (.ref b4)])) rfl rfl (hb hby d25_202) _ ?_
      show Steps p.tables e below (T19.setTop (mkF m 203 #[.val (.ref mg), .val (.long (1 : Int64)), .second, .unset, .val (.long (4294967296 : Int64)), .second, .val (.int (0 : Int32)), .val (.ref b4), .val (.int (0 : Int32)), .val (.int (1 : Int32)), .unset] [(.int (2147483647 : Int32)), (.int (0 : Int32)), (.ref b4)])) _
      refine XS.iconst X19.here hx rfl (hb hby d25_203) ?_
      show Steps p.tables e below (T19.setTop (mkF m 204 #[.val (.ref mg), .val (.long (1 : Int64)), .second, .unset, .val (.long (4294967296 : Int64)), .second, .val (.int (0 : Int32)), .val (.ref b4), .val (.int (0 : Int32)), .val (.int (1 : Int32)), .unset] [(.int (1 : Int32)), (.int (2147483647 : Int32)), (.int (0 : Int32)), (.ref b4)])) _
      refine XS.iadd X19.here hx rfl (hb hby d25_204) rfl ?_
      exact k)
  have J29 : ∀ t, Steps p.tables e below (T19.setTop (mkF m 205 #[.val (.ref mg), .val (.long (1 : Int64)), .second, .unset, .val (.long (4294967296 : Int64)), .second, .val (.int (0 : Int32)), .val (.ref b4), .val (.int (0 : Int32)), .val (.int (1 : Int32)), .unset] [(.int (-2147483648 : Int32)), (.int (0 : Int32)), (.ref b4)])) t → Steps p.tables e below (s₁.setTop (entryFrame m #[(.ref mg), (.long (1 : Int64))] 11)) t := fun t k => J28 t (by rw [(by decide : ((2147483647 : Int32) + (1 : Int32)) = (-2147483648 : Int32))]; exact k)
  have J30 : ∀ t, Steps p.tables e below (T19.setTop (mkF m 206 #[.val (.ref mg), .val (.long (1 : Int64)), .second, .unset, .val (.long (4294967296 : Int64)), .second, .val (.int (0 : Int32)), .val (.ref b4), .val (.int (0 : Int32)), .val (.int (1 : Int32)), .unset] [(.int (-2147483648 : Int32)), (.int (0 : Int32)), (.ref b4), (.int (-2147483648 : Int32))])) t → Steps p.tables e below (s₁.setTop (entryFrame m #[(.ref mg), (.long (1 : Int64))] 11)) t := fun t k => J29 t (by
      show Steps p.tables e below (T19.setTop (mkF m 205 #[.val (.ref mg), .val (.long (1 : Int64)), .second, .unset, .val (.long (4294967296 : Int64)), .second, .val (.int (0 : Int32)), .val (.ref b4), .val (.int (0 : Int32)), .val (.int (1 : Int32)), .unset] [(.int (-2147483648 : Int32)), (.int (0 : Int32)), (.ref b4)])) _
      jvm_step X19.here [X19.here.top, hx, (hb hby d25_205), Value.category]
      exact k)
  obtain ⟨T31, h31, X31, e31, W31, st31⟩ := stI X19 hx hZ e19 Aw19 (j := (0 : Int32)) (own_in hS1 (by decide) (by decide)) (g := (mkF m 206 #[.val (.ref mg), .val (.long (1 : Int64)), .second, .unset, .val (.long (4294967296 : Int64)), .second, .val (.int (0 : Int32)), .val (.ref b4), .val (.int (0 : Int32)), .val (.int (1 : Int32)), .unset] [(.int (-2147483648 : Int32)), (.int (0 : Int32)), (.ref b4), (.int (-2147483648 : Int32))])) rfl rfl (hb hby d25_206)
  have J32 : ∀ t, Steps p.tables e below (T31.setTop (mkF m 207 #[.val (.ref mg), .val (.long (1 : Int64)), .second, .unset, .val (.long (4294967296 : Int64)), .second, .val (.int (0 : Int32)), .val (.ref b4), .val (.int (0 : Int32)), .val (.int (1 : Int32)), .unset] [(.int (-2147483648 : Int32))])) t → Steps p.tables e below (s₁.setTop (entryFrame m #[(.ref mg), (.long (1 : Int64))] 11)) t := fun t k => J30 t (st31 t k)
  have Z33 : n0 ≤ h31.size := Nat.le_trans Z21 (Keep.of_wr W31).1
  have KK34 : Keep h0 h31 [] := KK22.wr W31 (Or.inr sz8)
  have N35 := Fr.snoc X31 N23 ge7
  obtain ⟨cl31, hcl31⟩ : ∃ z, z = cl19.setSlot ((0 : Int32)).toNatClampNeg (.int (-2147483648 : Int32)) := ⟨_, rfl⟩
  have Aw31 : Arr Z h31 b4 cl31 .int := by rw [hcl31]; exact Aw19.same W31
  have J36 : ∀ t, Steps p.tables e below (T31.setTop (mkF m 276 #[.val (.ref mg), .val (.long (1 : Int64)), .second, .unset, .val (.long (4294967296 : Int64)), .second, .val (.int (0 : Int32)), .val (.ref b4), .val (.int (0 : Int32)), .val (.int (0 : Int32)), .unset] [(.ref b4)])) t → Steps p.tables e below (s₁.setTop (entryFrame m #[(.ref mg), (.long (1 : Int64))] 11)) t := fun t k => J32 t (by
      show Steps p.tables e below (T31.setTop (mkF m 207 #[.val (.ref mg), .val (.long (1 : Int64)), .second, .unset, .val (.long (4294967296 : Int64)), .second, .val (.int (0 : Int32)), .val (.ref b4), .val (.int (0 : Int32)), .val (.int (1 : Int32)), .unset] [(.int (-2147483648 : Int32))])) _
      refine XS.ifYes X31.here hx rfl (pc0 := 207) (pc' := 214) rfl (hb hby d25_207) rfl ((if0 _ _).trans (feq (by decide)).2) (by decide) (by decide) ?_
      show Steps p.tables e below (T31.setTop (mkF m 214 #[.val (.ref mg), .val (.long (1 : Int64)), .second, .unset, .val (.long (4294967296 : Int64)), .second, .val (.int (0 : Int32)), .val (.ref b4), .val (.int (0 : Int32)), .val (.int (1 : Int32)), .unset] [])) _
      refine XS.iconst X31.here hx rfl (hb hby d25_214) ?_
      show Steps p.tables e below (T31.setTop (mkF m 215 #[.val (.ref mg), .val (.long (1 : Int64)), .second, .unset, .val (.long (4294967296 : Int64)), .second, .val (.int (0 : Int32)), .val (.ref b4), .val (.int (0 : Int32)), .val (.int (1 : Int32)), .unset] [(.int (0 : Int32))])) _
      refine XS.istore X31.here hx rfl (hb hby d25_215) rfl (l' := #[.val (.ref mg), .val (.long (1 : Int64)), .second, .unset, .val (.long (4294967296 : Int64)), .second, .val (.int (0 : Int32)), .val (.ref b4), .val (.int (0 : Int32)), .val (.int (0 : Int32)), .unset]) rfl ?_
      show Steps p.tables e below (T31.setTop (mkF m 217 #[.val (.ref mg), .val (.long (1 : Int64)), .second, .unset, .val (.long (4294967296 : Int64)), .second, .val (.int (0 : Int32)), .val (.ref b4), .val (.int (0 : Int32)), .val (.int (0 : Int32)), .unset] [])) _
      refine XS.goto X31.here hx rfl (pc0 := 217) (pc' := 182) rfl (hb hby d25_217) (by decide) (by decide) ?_
      show Steps p.tables e below (T31.setTop (mkF m 182 #[.val (.ref mg), .val (.long (1 : Int64)), .second, .unset, .val (.long (4294967296 : Int64)), .second, .val (.int (0 : Int32)), .val (.ref b4), .val (.int (0 : Int32)), .val (.int (0 : Int32)), .unset] [])) _
      refine XS.iload X31.here hx rfl (hb hby d25_182) rfl ?_
      show Steps p.tables e below (T31.setTop (mkF m 184 #[.val (.ref mg), .val (.long (1 : Int64)), .second, .unset, .val (.long (4294967296 : Int64)), .second, .val (.int (0 : Int32)), .val (.ref b4), .val (.int (0 : Int32)), .val (.int (0 : Int32)), .unset] [(.int (0 : Int32))])) _
      refine XS.ifYes X31.here hx rfl (pc0 := 184) (pc' := 220) rfl (hb hby d25_184) rfl ((if0 _ _).trans (flt (by decide)).2.2.2) (by decide) (by decide) ?_
      show Steps p.tables e below (T31.setTop (mkF m 220 #[.val (.ref mg), .val (.long (1 : Int64)), .second, .unset, .val (.long (4294967296 : Int64)), .second, .val (.int (0 : Int32)), .val (.ref b4), .val (.int (0 : Int32)), .val (.int (0 : Int32)), .unset] [])) _
      refine XS.iload X31.here hx rfl (hb hby d25_220) rfl ?_
      show Steps p.tables e below (T31.setTop (mkF m 222 #[.val (.ref mg), .val (.long (1 : Int64)), .second, .unset, .val (.long (4294967296 : Int64)), .second, .val (.int (0 : Int32)), .val (.ref b4), .val (.int (0 : Int32)), .val (.int (0 : Int32)), .unset] [(.int (0 : Int32))])) _
      refine XS.ifYes X31.here hx rfl (pc0 := 222) (pc' := 240) rfl (hb hby d25_222) rfl ((if0 _ _).trans (flt (by decide)).2.2.2) (by decide) (by decide) ?_
      show Steps p.tables e below (T31.setTop (mkF m 240 #[.val (.ref mg), .val (.long (1 : Int64)), .second, .unset, .val (.long (4294967296 : Int64)), .second, .val (.int (0 : Int32)), .val (.ref b4), .val (.int (0 : Int32)), .val (.int (0 : Int32)), .unset] [])) _
      refine XS.iload X31.here hx rfl (hb hby d25_240) rfl ?_
      show Steps p.tables e below (T31.setTop (mkF m 242 #[.val (.ref mg), .val (.long (1 : Int64)), .second, .unset, .val (.long (4294967296 : Int64)), .second, .val (.int (0 : Int32)), .val (.ref b4), .val (.int (0 : Int32)), .val (.int (0 : Int32)), .unset] [(.int (0 : Int32))])) _
      refine XS.ifYes X31.here hx rfl (pc0 := 242) (pc' := 274) rfl (hb hby d25_242) rfl ((if0 _ _).trans (teq (by decide)).1) (by decide) (by decide) ?_
      show Steps p.tables e below (T31.setTop (mkF m 274 #[.val (.ref mg), .val (.long (1 : Int64)), .second, .unset, .val (.long (4294967296 : Int64)), .second, .val (.int (0 : Int32)), .val (.ref b4), .val (.int (0 : Int32)), .val (.int (0 : Int32)), .unset] [])) _
      refine XS.aload X31.here hx rfl (hb hby d25_274) rfl rfl ?_
      exact k)
  obtain ⟨fs, hr, hrun, hended, hW, hsame⟩ := X31.leave (v := some (.ref b4)) (fun h => by rw [Bd.returns] at h; cases h)
  refine ⟨_, _, J36 _ ?_, hrun, hended, _, _, rfl, ?_, ⟨_, rfl⟩, hW, hsame.mono (by decide) (by decide)⟩
  · show Steps p.tables e below (T31.setTop (mkF m 276 #[.val (.ref mg), .val (.long (1 : Int64)), .second, .unset, .val (.long (4294967296 : Int64)), .second, .val (.int (0 : Int32)), .val (.ref b4), .val (.int (0 : Int32)), .val (.int (0 : Int32)), .unset] [(.ref b4)])) _
    jvm_step X31.here [X31.here.top, hx, (hb hby d25_276), X31.method', Bd.returns, Value.isRef, FieldType.isReference]
    first | (intro acts; rw [hr _ acts rfl rfl rfl]) | rw [hr _ _ rfl rfl rfl]
    exact Steps.refl _
  · show Q25 Z mg mcl h0 n0 _ T31.heap _
    rw [e31]
    exact ⟨b4, cl31, rfl, N35, KK34, Aw31, (own_ssz hcl31 hS1), (own_same hcl31 (by decide) (by rw [hS1]; decide)), (own_other hcl31 (by decide) (own_same hcl19 (by decide) (by rw [hS0]; decide))), sz8⟩
theorem d26_0 : decode jdk_2097_method_25_code 0 = .ok (.aload_n 0, 1) := by decide +kernel
theorem d26_1 : decode jdk_2097_method_25_code 1 = .ok (.invokespecial 3, 3) := by decide +kernel
theorem d26_4 : decode jdk_2097_method_25_code 4 = .ok (.aload_n 0, 1) := by decide +kernel
theorem d26_5 : decode jdk_2097_method_25_code 5 = .ok (.aload_n 1, 1) := by decide +kernel
theorem d26_6 : decode jdk_2097_method_25_code 6 = .ok (.arraylength, 1) := by decide +kernel
theorem d26_7 : decode jdk_2097_method_25_code 7 = .ok (.ifCond .ne 7, 3) := by decide +kernel
theorem d26_14 : decode jdk_2097_method_25_code 14 = .ok (.iload_n 2, 1) := by decide +kernel
theorem d26_15 : decode jdk_2097_method_25_code 15 = .ok (.putfield 32, 3) := by decide +kernel
theorem d26_18 : decode jdk_2097_method_25_code 18 = .ok (.aload_n 0, 1) := by decide +kernel
theorem d26_19 : decode jdk_2097_method_25_code 19 = .ok (.aload_n 1, 1) := by decide +kernel
theorem d26_20 : decode jdk_2097_method_25_code 20 = .ok (.putfield 28, 3) := by decide +kernel
theorem d26_23 : decode jdk_2097_method_25_code 23 = .ok (.aload_n 0, 1) := by decide +kernel
theorem d26_24 : decode jdk_2097_method_25_code 24 = .ok (.getfield 28, 3) := by decide +kernel
theorem d26_27 : decode jdk_2097_method_25_code 27 = .ok (.arraylength, 1) := by decide +kernel
theorem d26_28 : decode jdk_2097_method_25_code 28 = .ok (.ldc 43, 2) := by decide +kernel
theorem d26_30 : decode jdk_2097_method_25_code 30 = .ok (.if_icmp .lt 7, 3) := by decide +kernel
theorem d26_37 : decode jdk_2097_method_25_code 37 = .ok (.return_, 1) := by decide +kernel
theorem pn_26 : plainName "java/math/BigInteger" = true := by first | (simp [plainName, overriddenIn]; done) | decide +kernel
theorem ef_26_xxx (m : MethodId) (x0 : Addr) (x1 : Addr) (x2 : Int32) : entryFrame m #[(.ref x0), (.ref x1), (.int x2)] 3 = mkF m 0 #[.val (.ref x0), .val (.ref x1), .val (.int x2)] [] := by first | (simp [entryFrame, mkF, argsToLocals, Value.category]; done) | rfl
def Q26 (Z : State) (a1 : Addr) (mg : Addr) (mcl : Cell) (u1 : Value) (u2 : Value) (h0 : Heap) (n0 : Nat) (v : Option Value) (h : Heap) (L : List Loc) : Prop := v = none ∧ Fr n0 L ∧ Keep h0 h [a1] ∧ (Exa Z h a1 "java/math/BigInteger") ∧ (Fld Z h a1 "java/math/BigInteger" "signum" "I" (.int (1 : Int32))) ∧ (Fld Z h a1 "java/math/BigInteger" "mag" "[I" (.ref mg)) ∧ (Fld Z h a1 "java/math/BigInteger" "bitLengthPlusOne" "I" (.int (0 : Int32)))
set_option maxRecDepth 65536 in
set_option maxHeartbeats 40000000 in
theorem rm26 (l : Launch) (Z : State) (a0 : Array Value) (hw : ∀ d ∈ tables_1, d.before a0 Z = true) (ws : List Jvm.Cond) (a1 : Addr) (mg : Addr) (mcl : Cell) (u1 : Value) (u2 : Value) (h0 : Heap) (n0 : Nat) (Z0 : n0 ≤ h0.size) (E_a1 : Exa Z h0 a1 "java/math/BigInteger") (g_a1 : n0 ≤ a1) (F_signum_a1 : Fld Z h0 a1 "java/math/BigInteger" "signum" "I" u1) (F_mag_a1 : Fld Z h0 a1 "java/math/BigInteger" "mag" "[I" u2) (F_bitLengthPlusOne_a1 : Fld Z h0 a1 "java/math/BigInteger" "bitLengthPlusOne" "I" (.int (0 : Int32))) (Ar_mg : Arr Z h0 mg mcl .int) (hmz : mcl.slots.size = 2) (hm0 : mcl.slots[0]? = some (.int (-2147483648 : Int32))) (hm1 : mcl.slots[1]? = some (.int (0 : Int32))) (ne_a1_mg : a1 ≠ mg) :
    MetFree l (⟨"java/math/BigInteger", "<init>", "([II)V"⟩ : MethodName) (head1 (Jvm.Cond.code (⟨"java/math/BigInteger", "<init>", "([II)V"⟩ : MethodName) jdk_2097_method_25_code 3 none :: ws) ({ frames := 2, cells := 0, slots := 0, locals := 24 } : Room)) (fun a U => a = #[(.ref a1), (.ref mg), (.int (1 : Int32))] ∧ Z.Warmed39 U.vm ∧ U.heap = h0) (fun _ _ _ _ _ => True) (fun _ U o U' => ∃ v L, o = .returned v ∧ Q26 Z a1 mg mcl u1 u2 h0 n0 v U'.heap L ∧ FrameEnd U o U' L ({ frames := 2, cells := 0, slots := 0, locals := 24 } : Room).cells ({ frames := 2, cells := 0, slots := 0, locals := 24 } : Room).slots) := by
  refine MetFree.of_bodySF (plainFor_of_name pn_26) hisR ?_
  intro p e s m args below meth c s₁ Bd hml0 hP hK
  obtain ⟨rfl, hZ, hh⟩ := hP
  have hx := Bd.exec
  have hby := Bd.bytes
  have hml : c.maxLocals = 3 := hml0
  have hown : s.vm.findClass "java/math/BigInteger" = some m.cls := findClass_of_methodNamed Bd.named
  have hnm := (name_of_methodNamed Bd.named Bd.method).1
  have X0 : Stand p l e ({ frames := 2, cells := 0, slots := 0, locals := 24 } : Room) s m #[(.ref a1), (.ref mg), (.int (1 : Int32))] below meth c s₁ [] 0 0 := Stand.of_body Bd
  have e0 : s₁.heap = h0 := by rw [← hh, Bd.state]; rfl
  have N0 := Fr.nil n0
  have pre0 : ∀ t, Steps p.tables e below (s₁.setTop (mkF m 0 #[.val (.ref a1), .val (.ref mg), .val (.int (1 : Int32))] [])) t → Steps p.tables e below (s₁.setTop (entryFrame m #[(.ref a1), (.ref mg), (.int (1 : Int32))] 3)) t := fun t k => castTop (ef_26_xxx m a1 mg (1 : Int32)) k
  have J1 : ∀ t, Steps p.tables e below (s₁.setTop (mkF m 1 #[.val (.ref a1), .val (.ref mg), .val (.int (1 : Int32))] [(.ref a1)])) t → Steps p.tables e below (s₁.setTop (entryFrame m #[(.ref a1), (.ref mg), (.int (1 : Int32))] 3)) t := fun t k => pre0 t (by
      show Steps p.tables e below (s₁.setTop (mkF m 0 #[.val (.ref a1), .val (.ref mg), .val (.int (1 : Int32))] [])) _
      refine XS.aloadN X0.here hx rfl (hb hby d26_0) rfl rfl ?_
      exact k)
  obtain ⟨_, _, ⟨T2, L2, k2, n2⟩, -, X2, ⟨Lc2, hQ2, l2, y2, z2⟩, st2⟩ := X0.specialBack hx (y := (⟨"java/lang/Number", "<init>", "()V"⟩ : MethodName)) rfl hown (mvT hZ (hw _ (List.mem_of_getElem? (i := 154) rfl))) (mvT hZ (hw _ (List.mem_of_getElem? (i := 115) rfl))) (mvT hZ (hw _ (List.mem_of_getElem? (i := 119) rfl))) (by decide) (backOf (W := 0) (rm15 l Z a0 hw [] a1 h0 n0 Z0 ) hZ (hw _ (List.mem_of_getElem? (i := 119) rfl)) (hw _ (List.mem_of_getElem? (i := 118) rfl)) (by decide) (by decide)) (g := (mkF m 1 #[.val (.ref a1), .val (.ref mg), .val (.int (1 : Int32))] [(.ref a1)])) rfl (by rw [hml]; rfl) (Steps.refl _) (a := a1) (argsL := []) (rest := []) (lenOf pd_1 rfl) rfl (by show 2 * 0 + _ ≤ _; exact Nat.le_of_eq rfl) (hb hby d26_1) (fun _ _ => ⟨rfl, e0, (by decide : 0 + 0 ≤ _), (by decide : 0 + 0 ≤ _)⟩)
  dsimp only [Pt.U, Pt.locs, Pt.cells, Pt.slots] at X2 l2 y2 z2 st2 hQ2
  subst y2 z2
  obtain ⟨rfl, Nq2, e2⟩ := hQ2
  have N3 : Fr n0 L2 := by rw [l2]; exact Fr.app N0 Nq2
  have J4 : ∀ t, Steps p.tables e below (T2.setTop (mkF m 4 #[.val (.ref a1), .val (.ref mg), .val (.int (1 : Int32))] [])) t → Steps p.tables e below (s₁.setTop (entryFrame m #[(.ref a1), (.ref mg), (.int (1 : Int32))] 3)) t := fun t k => J1 t (st2.trans k)
  have J5 : ∀ t, Steps p.tables e below (T2.setTop (mkF m 15 #[.val (.ref a1), .val (.ref mg), .val (.int (1 : Int32))] [(.int (1 : Int32)), (.ref a1)])) t → Steps p.tables e below (s₁.setTop (entryFrame m #[(.ref a1), (.ref mg), (.int (1 : Int32))] 3)) t := fun t k => J4 t (by
      show Steps p.tables e below (T2.setTop (mkF m 4 #[.val (.ref a1), .val (.ref mg), .val (.int (1 : Int32))] [])) _
      refine XS.aloadN X2.here hx rfl (hb hby d26_4) rfl rfl ?_
      show Steps p.tables e below (T2.setTop (mkF m 5 #[.val (.ref a1), .val (.ref mg), .val (.int (1 : Int32))] [(.ref a1)])) _
      refine XS.aloadN X2.here hx rfl (hb hby d26_5) rfl rfl ?_
      show Steps p.tables e below (T2.setTop (mkF m 6 #[.val (.ref a1), .val (.ref mg), .val (.int (1 : Int32))] [(.ref mg), (.ref a1)])) _
      refine X2.arraylength hx (cell := mcl) (by rw [e2]; exact Ar_mg.1) (State.isArrayOf_alike hZ.alike Ar_mg.2.1) (g := (mkF m 6 #[.val (.ref a1), .val (.ref mg), .val (.int (1 : Int32))] [(.ref mg), (.ref a1)])) rfl (rest := [(.ref a1)]) rfl (hb hby d26_6) _ ?_
      rw [(show mcl.slots.size.toInt32 = (2 : Int32) from by rw [hmz]; rfl)]
      show Steps p.tables e below (T2.setTop (mkF m 7 #[.val (.ref a1), .val (.ref mg), .val (.int (1 : Int32))] [(.int (2 : Int32)), (.ref a1)])) _
      refine XS.ifYes X2.here hx rfl (pc0 := 7) (pc' := 14) rfl (hb hby d26_7) rfl ((if0 _ _).trans (feq (by decide)).2) (by decide) (by decide) ?_
      show Steps p.tables e below (T2.setTop (mkF m 14 #[.val (.ref a1), .val (.ref mg), .val (.int (1 : Int32))] [(.ref a1)])) _
      refine XS.iloadN X2.here hx rfl (hb hby d26_14) rfl ?_
      exact k)
  obtain ⟨T6, h6, X6, e6, W6, st6⟩ := putF X2 hx hZ hown (host := "") (Or.inl (hw _ (List.mem_of_getElem? (i := 156) rfl))) Via.refl e2 F_signum_a1 E_a1 (Or.inr ⟨(hw _ (List.mem_of_getElem? (i := 157) rfl)), rfl, hnm⟩) (hw _ (List.mem_of_getElem? (i := 149) rfl)) (ty := .int) (by decide) rfl rfl (g := (mkF m 15 #[.val (.ref a1), .val (.ref mg), .val (.int (1 : Int32))] [(.int (1 : Int32)), (.ref a1)])) rfl rfl (hb hby d26_15)
  have J7 : ∀ t, Steps p.tables e below (T6.setTop (mkF m 18 #[.val (.ref a1), .val (.ref mg), .val (.int (1 : Int32))] [])) t → Steps p.tables e below (s₁.setTop (entryFrame m #[(.ref a1), (.ref mg), (.int (1 : Int32))] 3)) t := fun t k => J5 t (st6 t k)
  have Z8 : n0 ≤ h6.size := Nat.le_trans Z0 (Keep.of_wr W6).1
  have KK9 : Keep h0 h6 [a1] := (Keep.refl h0 [a1]).wr W6 (Or.inl (List.mem_of_getElem? (i := 0) rfl))
  have N10 := Fr.snoc X6 N3 g_a1
  have Fw6 := F_signum_a1.same W6
  have J11 : ∀ t, Steps p.tables e below (T6.setTop (mkF m 20 #[.val (.ref a1), .val (.ref mg), .val (.int (1 : Int32))] [(.ref mg), (.ref a1)])) t → Steps p.tables e below (s₁.setTop (entryFrame m #[(.ref a1), (.ref mg), (.int (1 : Int32))] 3)) t := fun t k => J7 t (by
      show Steps p.tables e below (T6.setTop (mkF m 18 #[.val (.ref a1), .val (.ref mg), .val (.int (1 : Int32))] [])) _
      refine XS.aloadN X6.here hx rfl (hb hby d26_18) rfl rfl ?_
      show Steps p.tables e below (T6.setTop (mkF m 19 #[.val (.ref a1), .val (.ref mg), .val (.int (1 : Int32))] [(.ref a1)])) _
      refine XS.aloadN X6.here hx rfl (hb hby d26_19) rfl rfl ?_
      exact k)
  have f12 := F_mag_a1.other W6 (Or.inr (slot_ne (Or.inr (hw _ (List.mem_of_getElem? (i := 160) rfl))) (Or.inr (hw _ (List.mem_of_getElem? (i := 157) rfl))) (by decide) (t := (.array .int)) (t' := .int) (by decide) (by decide)))
  have f13 := E_a1.wr W6
  obtain ⟨T14, h14, X14, e14, W14, st14⟩ := putF X6 hx hZ hown (host := "") (Or.inl (hw _ (List.mem_of_getElem? (i := 159) rfl))) Via.refl e6 f12 f13 (Or.inr ⟨(hw _ (List.mem_of_getElem? (i := 160) rfl)), rfl, hnm⟩) (hw _ (List.mem_of_getElem? (i := 149) rfl)) (ty := (.array .int)) (by decide) rfl rfl (g := (mkF m 20 #[.val (.ref a1), .val (.ref mg), .val (.int (1 : Int32))] [(.ref mg), (.ref a1)])) rfl rfl (hb hby d26_20)
  have J15 : ∀ t, Steps p.tables e below (T14.setTop (mkF m 23 #[.val (.ref a1), .val (.ref mg), .val (.int (1 : Int32))] [])) t → Steps p.tables e below (s₁.setTop (entryFrame m #[(.ref a1), (.ref mg), (.int (1 : Int32))] 3)) t := fun t k => J11 t (st14 t k)
  have Z16 : n0 ≤ h14.size := Nat.le_trans Z8 (Keep.of_wr W14).1
  have KK17 : Keep h0 h14 [a1] := KK9.wr W14 (Or.inl (List.mem_of_getElem? (i := 0) rfl))
  have N18 := Fr.snoc X14 N10 g_a1
  have Fw14 := f12.same W14
  have J19 : ∀ t, Steps p.tables e below (T14.setTop (mkF m 24 #[.val (.ref a1), .val (.ref mg), .val (.int (1 : Int32))] [(.ref a1)])) t → Steps p.tables e below (s₁.setTop (entryFrame m #[(.ref a1), (.ref mg), (.int (1 : Int32))] 3)) t := fun t k => J15 t (by
      show Steps p.tables e below (T14.setTop (mkF m 23 #[.val (.ref a1), .val (.ref mg), .val (.int (1 : Int32))] [])) _
      refine XS.aloadN X14.here hx rfl (hb hby d26_23) rfl rfl ?_
      exact k)
  obtain ⟨T20, X20, e20, st20⟩ := getF X14 hx hZ hown (host := "") (Or.inl (hw _ (List.mem_of_getElem? (i := 159) rfl))) Via.refl e14 Fw14 (g := (mkF m 24 #[.val (.ref a1), .val (.ref mg), .val (.int (1 : Int32))] [(.ref a1)])) rfl rfl (hb hby d26_24)
  have J21 : ∀ t, Steps p.tables e below (T20.setTop (mkF m 27 #[.val (.ref a1), .val (.ref mg), .val (.int (1 : Int32))] [(.ref mg)])) t → Steps p.tables e below (s₁.setTop (entryFrame m #[(.ref a1), (.ref mg), (.int (1 : Int32))] 3)) t := fun t k => J19 t (st20 t k)
  have f22 := Ar_mg.other W6 (Ne.symm ne_a1_mg)
  have f23 := f22.other W14 (Ne.symm ne_a1_mg)
  have J24 : ∀ t, Steps p.tables e below (T20.setTop (mkF m 37 #[.val (.ref a1), .val (.ref mg), .val (.int (1 : Int32))] [])) t → Steps p.tables e below (s₁.setTop (entryFrame m #[(.ref a1), (.ref mg), (.int (1 : Int32))] 3)) t := fun t k => J21 t (by
      show Steps p.tables e below (T20.setTop (mkF m 27 #[.val (.ref a1), .val (.ref mg), .val (.int (1 : Int32))] [(.ref mg)])) _
      refine X20.arraylength hx (cell := mcl) (by rw [e20]; exact f23.1) (State.isArrayOf_alike hZ.alike f23.2.1) (g := (mkF m 27 #[.val (.ref a1), .val (.ref mg), .val (.int (1 : Int32))] [(.ref mg)])) rfl (rest := []) rfl (hb hby d26_27) _ ?_
      rw [(show mcl.slots.size.toInt32 = (2 : Int32) from by rw [hmz]; rfl)]
      show Steps p.tables e below (T20.setTop (mkF m 28 #[.val (.ref a1), .val (.ref mg), .val (.int (1 : Int32))] [(.int (2 : Int32))])) _
      refine X20.ldcInt hx hown (mvT hZ (hw _ (List.mem_of_getElem? (i := 180) rfl))) (g := (mkF m 28 #[.val (.ref a1), .val (.ref mg), .val (.int (1 : Int32))] [(.int (2 : Int32))])) rfl (hb hby d26_28) _ ?_
      show Steps p.tables e below (T20.setTop (mkF m 30 #[.val (.ref a1), .val (.ref mg), .val (.int (1 : Int32))] [(.int (67108864 : Int32)), (.int (2 : Int32))])) _
      refine XS.icmpYes X20.here hx rfl (pc0 := 30) (pc' := 37) rfl (hb hby d26_30) rfl (tlt (by decide)).1 (by decide) (by decide) ?_
      exact k)
  obtain ⟨fs, hr, hrun, hended, hW, hsame⟩ := X20.leave (v := none) (fun _ => rfl)
  have f25 := f13.wr W14
  have f26 := Fw6.other W14 (Or.inr (slot_ne (Or.inr (hw _ (List.mem_of_getElem? (i := 157) rfl))) (Or.inr (hw _ (List.mem_of_getElem? (i := 160) rfl))) (by decide) (t := .int) (t' := (.array .int)) (by decide) (by decide)))
  have f27 := F_bitLengthPlusOne_a1.other W6 (Or.inr (slot_ne (Or.inl (hw _ (List.mem_of_getElem? (i := 223) rfl))) (Or.inr (hw _ (List.mem_of_getElem? (i := 157) rfl))) (by decide) (t := .int) (t' := .int) (by decide) (by decide)))
  have f28 := f27.other W14 (Or.inr (slot_ne (Or.inl (hw _ (List.mem_of_getElem? (i := 223) rfl))) (Or.inr (hw _ (List.mem_of_getElem? (i := 160) rfl))) (by decide) (t := .int) (t' := (.array .int)) (by decide) (by decide)))
  refine ⟨_, _, J24 _ ?_, hrun, hended, _, _, rfl, ?_, ⟨_, rfl⟩, hW, hsame.mono (by decide) (by decide)⟩
  · show Steps p.tables e below (T20.setTop (mkF m 37 #[.val (.ref a1), .val (.ref mg), .val (.int (1 : Int32))] [])) _
    exact X20.returnOut hx Bd.returns (hb hby d26_37) hr
  · show Q26 Z a1 mg mcl u1 u2 h0 n0 _ T20.heap _
    rw [e20]
    exact ⟨rfl, N18, KK17, f25, f26, Fw14, f28⟩
theorem d22_0 : decode jdk_2097_method_33_code 0 = .ok (.lload_n 1, 1) := by decide +kernel
theorem d22_1 : decode jdk_2097_method_33_code 1 = .ok (.lconst 0, 1) := by decide +kernel
theorem d22_2 : decode jdk_2097_method_33_code 2 = .ok (.lcmp, 1) := by decide +kernel
theorem d22_3 : decode jdk_2097_method_33_code 3 = .ok (.ifCond .ne 5, 3) := by decide +kernel
theorem d22_8 : decode jdk_2097_method_33_code 8 = .ok (.aload_n 0, 1) := by decide +kernel
theorem d22_9 : decode jdk_2097_method_33_code 9 = .ok (.getfield 32, 3) := by decide +kernel
theorem d22_12 : decode jdk_2097_method_33_code 12 = .ok (.ifCond .ne 8, 3) := by decide +kernel
theorem d22_20 : decode jdk_2097_method_33_code 20 = .ok (.lload_n 1, 1) := by decide +kernel
theorem d22_21 : decode jdk_2097_method_33_code 21 = .ok (.invokestatic 370, 3) := by decide +kernel
theorem pd_5 : parseMethodDescriptor "(J)I" = some ⟨[.long], some .int⟩ := by decide +kernel
theorem d22_24 : decode jdk_2097_method_33_code 24 = .ok (.aload_n 0, 1) := by decide +kernel
theorem d22_25 : decode jdk_2097_method_33_code 25 = .ok (.getfield 32, 3) := by decide +kernel
theorem d22_28 : decode jdk_2097_method_33_code 28 = .ok (.if_icmp .ne 26, 3) := by decide +kernel
theorem d22_31 : decode jdk_2097_method_33_code 31 = .ok (.new 23, 3) := by decide +kernel
theorem d22_34 : decode jdk_2097_method_33_code 34 = .ok (.dup, 1) := by decide +kernel
theorem d22_35 : decode jdk_2097_method_33_code 35 = .ok (.aload_n 0, 1) := by decide +kernel
theorem d22_36 : decode jdk_2097_method_33_code 36 = .ok (.getfield 28, 3) := by decide +kernel
theorem d22_39 : decode jdk_2097_method_33_code 39 = .ok (.lload_n 1, 1) := by decide +kernel
theorem d22_40 : decode jdk_2097_method_33_code 40 = .ok (.invokestatic 375, 3) := by decide +kernel
theorem pd_6 : parseMethodDescriptor "(J)J" = some ⟨[.long], some .long⟩ := by decide +kernel
theorem d22_43 : decode jdk_2097_method_33_code 43 = .ok (.invokestatic 378, 3) := by decide +kernel
theorem pd_7 : parseMethodDescriptor "([IJ)[I" = some ⟨[(.array .int), .long], some (.array .int)⟩ := by decide +kernel
theorem d22_46 : decode jdk_2097_method_33_code 46 = .ok (.aload_n 0, 1) := by decide +kernel
theorem d22_47 : decode jdk_2097_method_33_code 47 = .ok (.getfield 32, 3) := by decide +kernel
theorem d22_50 : decode jdk_2097_method_33_code 50 = .ok (.invokespecial 175, 3) := by decide +kernel
theorem pd_8 : parseMethodDescriptor "([II)V" = some ⟨[(.array .int), .int], none⟩ := by decide +kernel
theorem d22_53 : decode jdk_2097_method_33_code 53 = .ok (.areturn, 1) := by decide +kernel
theorem pn_22 : plainName "java/math/BigInteger" = true := by first | (simp [plainName, overriddenIn]; done) | decide +kernel
theorem ef_22_xx (m : MethodId) (x0 : Addr) (x1 : Int64) : entryFrame m #[(.ref x0), (.long x1)] 5 = mkF m 0 #[.val (.ref x0), .val (.long x1), .second, .unset, .unset] [] := by first | (simp [entryFrame, mkF, argsToLocals, Value.category]; done) | rfl
def Q22 (Z : State) (a1 : Addr) (mg : Addr) (mcl : Cell) (h0 : Heap) (n0 : Nat) (v : Option Value) (h : Heap) (L : List Loc) : Prop := ∃ (bi : Addr) (m2 : Addr) (mcl' : Cell), v = some (.ref bi) ∧ Fr n0 L ∧ Keep h0 h [] ∧ (Exa Z h bi "java/math/BigInteger") ∧ (Fld Z h bi "java/math/BigInteger" "signum" "I" (.int (1 : Int32))) ∧ (Fld Z h bi "java/math/BigInteger" "mag" "[I" (.ref m2)) ∧ (Fld Z h bi "java/math/BigInteger" "bitLengthPlusOne" "I" (.int (0 : Int32))) ∧ (Arr Z h m2 mcl' .int) ∧ (mcl'.slots.size = 2) ∧ (mcl'.slots[0]? = some (.int (-2147483648 : Int32))) ∧ (mcl'.slots[1]? = some (.int (0 : Int32))) ∧ (h0.size ≤ bi) ∧ (h0.size ≤ m2) ∧ (bi ≠ m2) ∧ (n0 ≤ bi)
set_option maxRecDepth 65536 in
set_option maxHeartbeats 40000000 in
theorem rm22 (l : Launch) (Z : State) (a0 : Array Value) (hw : ∀ d ∈ tables_1, d.before a0 Z = true) (ws : List Jvm.Cond) (a1 : Addr) (mg : Addr) (mcl : Cell) (h0 : Heap) (n0 : Nat) (Z0 : n0 ≤ h0.size) (E_a1 : Exa Z h0 a1 "java/math/BigInteger") (F_signum_a1 : Fld Z h0 a1 "java/math/BigInteger" "signum" "I" (.int (1 : Int32))) (F_mag_a1 : Fld Z h0 a1 "java/math/BigInteger" "mag" "[I" (.ref mg)) (F_bitLengthPlusOne_a1 : Fld Z h0 a1 "java/math/BigInteger" "bitLengthPlusOne" "I" (.int (0 : Int32))) (Ar_mg : Arr Z h0 mg mcl .int) (hmz : mcl.slots.size = 2) (hm0 : mcl.slots[0]? = some (.int (2147483647 : Int32))) (hm1 : mcl.slots[1]? = some (.int (-1 : Int32))) :
    MetFree l (⟨"java/math/BigInteger", "add", "(J)Ljava/math/BigInteger;"⟩ : MethodName) (head1 (Jvm.Cond.code (⟨"java/math/BigInteger", "add", "(J)Ljava/math/BigInteger;"⟩ : MethodName) jdk_2097_method_33_code 5 (some (.object "java/math/BigInteger")) :: ws) ({ frames := 3, cells := 2, slots := 8, locals := 39 } : Room)) (fun a U => a = #[(.ref a1), (.long (1 : Int64))] ∧ Z.Warmed39 U.vm ∧ U.heap = h0) (fun _ _ _ _ _ => True) (fun _ U o U' => ∃ v L, o = .returned v ∧ Q22 Z a1 mg mcl h0 n0 v U'.heap L ∧ FrameEnd U o U' L ({ frames := 3, cells := 2, slots := 8, locals := 39 } : Room).cells ({ frames := 3, cells := 2, slots := 8, locals := 39 } : Room).slots) := by
  refine MetFree.of_bodySF (plainFor_of_name pn_22) hisR ?_
  intro p e s m args below meth c s₁ Bd hml0 hP hK
  obtain ⟨rfl, hZ, hh⟩ := hP
  have hx := Bd.exec
  have hby := Bd.bytes
  have hml : c.maxLocals = 5 := hml0
  have hown : s.vm.findClass "java/math/BigInteger" = some m.cls := findClass_of_methodNamed Bd.named
  have hnm := (name_of_methodNamed Bd.named Bd.method).1
  have X0 : Stand p l e ({ frames := 3, cells := 2, slots := 8, locals := 39 } : Room) s m #[(.ref a1), (.long (1 : Int64))] below meth c s₁ [] 0 0 := Stand.of_body Bd
  have e0 : s₁.heap = h0 := by rw [← hh, Bd.state]; rfl
  have N0 := Fr.nil n0
  have pre0 : ∀ t, Steps p.tables e below (s₁.setTop (mkF m 0 #[.val (.ref a1), .val (.long (1 : Int64)), .second, .unset, .unset] [])) t → Steps p.tables e below (s₁.setTop (entryFrame m #[(.ref a1), (.long (1 : Int64))] 5)) t := fun t k => castTop (ef_22_xx m a1 (1 : Int64)) k
  have J1 : ∀ t, Steps p.tables e below (s₁.setTop (mkF m 9 #[.val (.ref a1), .val (.long (1 : Int64)), .second, .unset, .unset] [(.ref a1)])) t → Steps p.tables e below (s₁.setTop (entryFrame m #[(.ref a1), (.long (1 : Int64))] 5)) t := fun t k => pre0 t (by
      show Steps p.tables e below (s₁.setTop (mkF m 0 #[.val (.ref a1), .val (.long (1 : Int64)), .second, .unset, .unset] [])) _
      refine XS.lloadN X0.here hx rfl (hb hby d22_0) rfl ?_
      show Steps p.tables e below (s₁.setTop (mkF m 1 #[.val (.ref a1), .val (.long (1 : Int64)), .second, .unset, .unset] [(.long (1 : Int64))])) _
      refine XS.lconst X0.here hx rfl (hb hby d22_1) ?_
      show Steps p.tables e below (s₁.setTop (mkF m 2 #[.val (.ref a1), .val (.long (1 : Int64)), .second, .unset, .unset] [(.long (0 : Int64)), (.long (1 : Int64))])) _
      refine XS.lcmp X0.here hx rfl (hb hby d22_2) rfl ?_
      show Steps p.tables e below (s₁.setTop (mkF m 3 #[.val (.ref a1), .val (.long (1 : Int64)), .second, .unset, .unset] [(.int (lcmpW (1 : Int64) (0 : Int64)))])) _
      refine XS.ifYes X0.here hx rfl (pc0 := 3) (pc' := 8) rfl (hb hby d22_3) rfl ((if0 _ _).trans (feq (by decide)).2) (by decide) (by decide) ?_
      show Steps p.tables e below (s₁.setTop (mkF m 8 #[.val (.ref a1), .val (.long (1 : Int64)), .second, .unset, .unset] [])) _
      refine XS.aloadN X0.here hx rfl (hb hby d22_8) rfl rfl ?_
      exact k)
  obtain ⟨T2, X2, e2, st2⟩ := getF X0 hx hZ hown (host := "") (Or.inl (hw _ (List.mem_of_getElem? (i := 156) rfl))) Via.refl e0 F_signum_a1 (g := (mkF m 9 #[.val (.ref a1), .val (.long (1 : Int64)), .second, .unset, .unset] [(.ref a1)])) rfl rfl (hb hby d22_9)
  have J3 : ∀ t, Steps p.tables e below (T2.setTop (mkF m 12 #[.val (.ref a1), .val (.long (1 : Int64)), .second, .unset, .unset] [(.int (1 : Int32))])) t → Steps p.tables e below (s₁.setTop (entryFrame m #[(.ref a1), (.long (1 : Int64))] 5)) t := fun t k => J1 t (st2 t k)
  have J4 : ∀ t, Steps p.tables e below (T2.setTop (mkF m 21 #[.val (.ref a1), .val (.long (1 : Int64)), .second, .unset, .unset] [(.long (1 : Int64))])) t → Steps p.tables e below (s₁.setTop (entryFrame m #[(.ref a1), (.long (1 : Int64))] 5)) t := fun t k => J3 t (by
      show Steps p.tables e below (T2.setTop (mkF m 12 #[.val (.ref a1), .val (.long (1 : Int64)), .second, .unset, .unset] [(.int (1 : Int32))])) _
      refine XS.ifYes X2.here hx rfl (pc0 := 12) (pc' := 20) rfl (hb hby d22_12) rfl ((if0 _ _).trans (feq (by decide)).2) (by decide) (by decide) ?_
      show Steps p.tables e below (T2.setTop (mkF m 20 #[.val (.ref a1), .val (.long (1 : Int64)), .second, .unset, .unset] [])) _
      refine XS.lloadN X2.here hx rfl (hb hby d22_20) rfl ?_
      exact k)
  obtain ⟨_, _, ⟨T5, L5, k5, n5⟩, -, X5, ⟨Lc5, hQ5, l5, y5, z5⟩, st5⟩ := Jvm.LawKit.callS X2 hx (y := (⟨"java/lang/Long", "signum", "(J)I"⟩ : MethodName)) hown (mvT hZ (hw _ (List.mem_of_getElem? (i := 166) rfl))) (mvT hZ (hw _ (List.mem_of_getElem? (i := 167) rfl))) (mvT hZ (hw _ (List.mem_of_getElem? (i := 168) rfl))) (mvT hZ (hw _ (List.mem_of_getElem? (i := 169) rfl))) (by decide) (backOf (W := 0) (rm23 l Z a0 hw [] (1 : Int64) h0 n0 Z0 ) hZ (hw _ (List.mem_of_getElem? (i := 169) rfl)) (hw _ (List.mem_of_getElem? (i := 168) rfl)) (by decide) (by decide)) (g := (mkF m 21 #[.val (.ref a1), .val (.long (1 : Int64)), .second, .unset, .unset] [(.long (1 : Int64))])) rfl (by rw [hml]; rfl) (argsL := [(.long (1 : Int64))]) (rest := []) (lenOf pd_5 rfl) rfl (by show 2 * 0 + _ ≤ _; exact Nat.le_of_eq rfl) (hb hby d22_21) (fun _ _ => ⟨rfl, e2, (by decide : 0 + 0 ≤ _), (by decide : 0 + 0 ≤ _)⟩)
  dsimp only [Pt.U, Pt.locs, Pt.cells, Pt.slots] at X5 l5 y5 z5 st5 hQ5
  subst y5 z5
  obtain ⟨rfl, Nq5, e5⟩ := hQ5
  have N6 : Fr n0 L5 := by rw [l5]; exact Fr.app N0 Nq5
  have J7 : ∀ t, Steps p.tables e below (T5.setTop (mkF m 24 #[.val (.ref a1), .val (.long (1 : Int64)), .second, .unset, .unset] [(.int (own_sg (1 : Int64)))])) t → Steps p.tables e below (s₁.setTop (entryFrame m #[(.ref a1), (.long (1 : Int64))] 5)) t := fun t k => J4 t (st5 t k)
  have J8 : ∀ t, Steps p.tables e below (T5.setTop (mkF m 24 #[.val (.ref a1), .val (.long (1 : Int64)), .second, .unset, .unset] [(.int (1 : Int32))])) t → Steps p.tables e below (s₁.setTop (entryFrame m #[(.ref a1), (.long (1 : Int64))] 5)) t := fun t k => J7 t (by rw [(by decide : (own_sg (1 : Int64)) = (1 : Int32))]; exact k)
  have J9 : ∀ t, Steps p.tables e below (T5.setTop (mkF m 25 #[.val (.ref a1), .val (.long (1 : Int64)), .second, .unset, .unset] [(.ref a1), (.int (1 : Int32))])) t → Steps p.tables e below (s₁.setTop (entryFrame m #[(.ref a1), (.long (1 : Int64))] 5)) t := fun t k => J8 t (by
      show Steps p.tables e below (T5.setTop (mkF m 24 #[.val (.ref a1), .val (.long (1 : Int64)), .second, .unset, .unset] [(.int (1 : Int32))])) _
      refine XS.aloadN X5.here hx rfl (hb hby d22_24) rfl rfl ?_
      exact k)
  obtain ⟨T10, X10, e10, st10⟩ := getF X5 hx hZ hown (host := "") (Or.inl (hw _ (List.mem_of_getElem? (i := 156) rfl))) Via.refl e5 F_signum_a1 (g := (mkF m 25 #[.val (.ref a1), .val (.long (1 : Int64)), .second, .unset, .unset] [(.ref a1), (.int (1 : Int32))])) rfl rfl (hb hby d22_25)
  have J11 : ∀ t, Steps p.tables e below (T10.setTop (mkF m 28 #[.val (.ref a1), .val (.long (1 : Int64)), .second, .unset, .unset] [(.int (1 : Int32)), (.int (1 : Int32))])) t → Steps p.tables e below (s₁.setTop (entryFrame m #[(.ref a1), (.long (1 : Int64))] 5)) t := fun t k => J9 t (st10 t k)
  have J12 : ∀ t, Steps p.tables e below (T10.setTop (mkF m 31 #[.val (.ref a1), .val (.long (1 : Int64)), .second, .unset, .unset] [])) t → Steps p.tables e below (s₁.setTop (entryFrame m #[(.ref a1), (.long (1 : Int64))] 5)) t := fun t k => J11 t (by
      show Steps p.tables e below (T10.setTop (mkF m 28 #[.val (.ref a1), .val (.long (1 : Int64)), .second, .unset, .unset] [(.int (1 : Int32)), (.int (1 : Int32))])) _
      refine XS.icmpNo X10.here hx rfl (hb hby d22_28) rfl (teq rfl).2 ?_
      exact k)
  obtain ⟨T13, h13, X13, e13, E13, A13, D13, U13, st13⟩ := newO X10 hx hZ hown (hw _ (List.mem_of_getElem? (i := 148) rfl)) (hw _ (List.mem_of_getElem? (i := 149) rfl)) (hw _ (List.mem_of_getElem? (i := 145) rfl)) e10 (g := (mkF m 31 #[.val (.ref a1), .val (.long (1 : Int64)), .second, .unset, .unset] [])) rfl (hb hby d22_31) (by decide) (by decide)
  obtain ⟨b13, g13⟩ : ∃ z, z = h0.size := ⟨_, rfl⟩
  rw [← g13] at A13 D13 U13 st13
  have J14 : ∀ t, Steps p.tables e below (T13.setTop (mkF m 34 #[.val (.ref a1), .val (.long (1 : Int64)), .second, .unset, .unset] [(.ref b13)])) t → Steps p.tables e below (s₁.setTop (entryFrame m #[(.ref a1), (.long (1 : Int64))] 5)) t := fun t k => J12 t (st13 t k)
  have ne15 : a1 ≠ b13 := Nat.ne_of_lt (Nat.lt_of_lt_of_le E_a1.lt (Nat.le_of_eq g13.symm))
  have ne16 : mg ≠ b13 := Nat.ne_of_lt (Nat.lt_of_lt_of_le Ar_mg.lt (Nat.le_of_eq g13.symm))
  have ge17 : n0 ≤ b13 := Nat.le_trans Z0 (Nat.le_of_eq g13.symm)
  have sz18 : h0.size ≤ b13 := Nat.le_trans (Keep.refl h0 []).1 (Nat.le_of_eq g13.symm)
  have Z19 : n0 ≤ h13.size := Nat.le_trans Z0 E13.1
  have KK20 : Keep h0 h13 [] := (Keep.refl h0 []).ext E13
  have F13_signum : Fld Z h13 b13 "java/math/BigInteger" "signum" "I" (.int (0 : Int32)) := D13 (Or.inr (hw _ (List.mem_of_getElem? (i := 157) rfl))) (ty := .int) (by decide)
  have F13_mag : Fld Z h13 b13 "java/math/BigInteger" "mag" "[I" .null := D13 (Or.inr (hw _ (List.mem_of_getElem? (i := 160) rfl))) (ty := (.array .int)) (by decide)
  have F13_bitLengthPlusOne : Fld Z h13 b13 "java/math/BigInteger" "bitLengthPlusOne" "I" (.int (0 : Int32)) := D13 (Or.inl (hw _ (List.mem_of_getElem? (i := 223) rfl))) (ty := .int) (by decide)
  have J21 : ∀ t, Steps p.tables e below (T13.setTop (mkF m 36 #[.val (.ref a1), .val (.long (1 : Int64)), .second, .unset, .unset] [(.ref a1), (.ref b13), (.ref b13)])) t → Steps p.tables e below (s₁.setTop (entryFrame m #[(.ref a1), (.long (1 : Int64))] 5)) t := fun t k => J14 t (by
      show Steps p.tables e below (T13.setTop (mkF m 34 #[.val (.ref a1), .val (.long (1 : Int64)), .second, .unset, .unset] [(.ref b13)])) _
      refine XS.dup X13.here hx rfl (hb hby d22_34) rfl rfl ?_
      show Steps p.tables e below (T13.setTop (mkF m 35 #[.val (.ref a1), .val (.long (1 : Int64)), .second, .unset, .unset] [(.ref b13), (.ref b13)])) _
      refine XS.aloadN X13.here hx rfl (hb hby d22_35) rfl rfl ?_
      exact k)
  have f22 := F_mag_a1.ext E13
  obtain ⟨T23, X23, e23, st23⟩ := getF X13 hx hZ hown (host := "") (Or.inl (hw _ (List.mem_of_getElem? (i := 159) rfl))) Via.refl e13 f22 (g := (mkF m 36 #[.val (.ref a1), .val (.long (1 : Int64)), .second, .unset, .unset] [(.ref a1), (.ref b13), (.ref b13)])) rfl rfl (hb hby d22_36)
  have J24 : ∀ t, Steps p.tables e below (T23.setTop (mkF m 39 #[.val (.ref a1), .val (.long (1 : Int64)), .second, .unset, .unset] [(.ref mg), (.ref b13), (.ref b13)])) t → Steps p.tables e below (s₁.setTop (entryFrame m #[(.ref a1), (.long (1 : Int64))] 5)) t := fun t k => J21 t (st23 t k)
  have J25 : ∀ t, Steps p.tables e below (T23.setTop (mkF m 40 #[.val (.ref a1), .val (.long (1 : Int64)), .second, .unset, .unset] [(.long (1 : Int64)), (.ref mg), (.ref b13), (.ref b13)])) t → Steps p.tables e below (s₁.setTop (entryFrame m #[(.ref a1), (.long (1 : Int64))] 5)) t := fun t k => J24 t (by
      show Steps p.tables e below (T23.setTop (mkF m 39 #[.val (.ref a1), .val (.long (1 : Int64)), .second, .unset, .unset] [(.ref mg), (.ref b13), (.ref b13)])) _
      refine XS.lloadN X23.here hx rfl (hb hby d22_39) rfl ?_
      exact k)
  obtain ⟨_, _, ⟨T26, L26, k26, n26⟩, -, X26, ⟨Lc26, hQ26, l26, y26, z26⟩, st26⟩ := Jvm.LawKit.callS X23 hx (y := (⟨"java/lang/Math", "abs", "(J)J"⟩ : MethodName)) hown (mvT hZ (hw _ (List.mem_of_getElem? (i := 170) rfl))) (mvT hZ (hw _ (List.mem_of_getElem? (i := 171) rfl))) (mvT hZ (hw _ (List.mem_of_getElem? (i := 26) rfl))) (mvT hZ (hw _ (List.mem_of_getElem? (i := 172) rfl))) (by decide) (backOf (W := 3) (rm24 l Z a0 hw []  h13 n0 Z19 ) hZ (hw _ (List.mem_of_getElem? (i := 172) rfl)) (hw _ (List.mem_of_getElem? (i := 26) rfl)) (by decide) (by decide)) (g := (mkF m 40 #[.val (.ref a1), .val (.long (1 : Int64)), .second, .unset, .unset] [(.long (1 : Int64)), (.ref mg), (.ref b13), (.ref b13)])) rfl (by rw [hml]; rfl) (argsL := [(.long (1 : Int64))]) (rest := [(.ref mg), (.ref b13), (.ref b13)]) (lenOf pd_6 rfl) rfl (by show 2 * 0 + _ ≤ _; exact Nat.le_of_eq rfl) (hb hby d22_40) (fun _ _ => ⟨rfl, e23, (by decide : 1 + 0 ≤ _), (by decide : 6 + 0 ≤ _)⟩)
  dsimp only [Pt.U, Pt.locs, Pt.cells, Pt.slots] at X26 l26 y26 z26 st26 hQ26
  subst y26 z26
  obtain ⟨rfl, Nq26, e26⟩ := hQ26
  have N27 : Fr n0 L26 := by rw [l26]; exact Fr.app N6 Nq26
  have J28 : ∀ t, Steps p.tables e below (T26.setTop (mkF m 43 #[.val (.ref a1), .val (.long (1 : Int64)), .second, .unset, .unset] [(.long (1 : Int64)), (.ref mg), (.ref b13), (.ref b13)])) t → Steps p.tables e below (s₁.setTop (entryFrame m #[(.ref a1), (.long (1 : Int64))] 5)) t := fun t k => J25 t (st26 t k)
  have f29 := E_a1.ext E13
  have f30 := Ar_mg.ext E13
  obtain ⟨_, _, ⟨T31, L31, k31, n31⟩, -, X31, ⟨Lc31, hQ31, l31, y31, z31⟩, st31⟩ := Jvm.LawKit.callS X26 hx (y := (⟨"java/math/BigInteger", "add", "([IJ)[I"⟩ : MethodName)) hown (mvT hZ (hw _ (List.mem_of_getElem? (i := 173) rfl))) (mvT hZ (hw _ (List.mem_of_getElem? (i := 174) rfl))) (mvT hZ (hw _ (List.mem_of_getElem? (i := 145) rfl))) (mvT hZ (hw _ (List.mem_of_getElem? (i := 175) rfl))) (by decide) (backOf (W := 2) (rm25 l Z a0 hw [] mg mcl h13 n0 Z19 f30 (by assumption) (by assumption) (by assumption)) hZ (hw _ (List.mem_of_getElem? (i := 175) rfl)) (hw _ (List.mem_of_getElem? (i := 145) rfl)) (by decide) (by decide)) (g := (mkF m 43 #[.val (.ref a1), .val (.long (1 : Int64)), .second, .unset, .unset] [(.long (1 : Int64)), (.ref mg), (.ref b13), (.ref b13)])) rfl (by rw [hml]; rfl) (argsL := [(.ref mg), (.long (1 : Int64))]) (rest := [(.ref b13), (.ref b13)]) (lenOf pd_7 rfl) rfl (by show 2 * 0 + _ ≤ _; exact Nat.le_of_eq rfl) (hb hby d22_43) (fun _ _ => ⟨rfl, e26, (by decide : 1 + 1 ≤ _), (by decide : 6 + 2 ≤ _)⟩)
  dsimp only [Pt.U, Pt.locs, Pt.cells, Pt.slots] at X31 l31 y31 z31 st31 hQ31
  subst y31 z31
  obtain ⟨m2_31, mcl'_31, rfl, Nq31, K31, p31_1, p31_2, p31_3, p31_4, p31_5⟩ := hQ31
  have N32 : Fr n0 L31 := by rw [l31]; exact Fr.app N27 Nq31
  have J33 : ∀ t, Steps p.tables e below (T31.setTop (mkF m 46 #[.val (.ref a1), .val (.long (1 : Int64)), .second, .unset, .unset] [(.ref m2_31), (.ref b13), (.ref b13)])) t → Steps p.tables e below (s₁.setTop (entryFrame m #[(.ref a1), (.long (1 : Int64))] 5)) t := fun t k => J28 t (st31 t k)
  have Z34 : n0 ≤ T31.heap.size := Nat.le_trans Z19 K31.1
  have KK35 : Keep h0 T31.heap [] := KK20.trans K31 all0
  have J36 : ∀ t, Steps p.tables e below (T31.setTop (mkF m 47 #[.val (.ref a1), .val (.long (1 : Int64)), .second, .unset, .unset] [(.ref a1), (.ref m2_31), (.ref b13), (.ref b13)])) t → Steps p.tables e below (s₁.setTop (entryFrame m #[(.ref a1), (.long (1 : Int64))] 5)) t := fun t k => J33 t (by
      show Steps p.tables e below (T31.setTop (mkF m 46 #[.val (.ref a1), .val (.long (1 : Int64)), .second, .unset, .unset] [(.ref m2_31), (.ref b13), (.ref b13)])) _
      refine XS.aloadN X31.here hx rfl (hb hby d22_46) rfl rfl ?_
      exact k)
  have f37 := F_signum_a1.ext E13
  have f38 := f37.keep K31 nin0
  obtain ⟨T39, X39, e39, st39⟩ := getF X31 hx hZ hown (host := "") (Or.inl (hw _ (List.mem_of_getElem? (i := 156) rfl))) Via.refl rfl f38 (g := (mkF m 47 #[.val (.ref a1), .val (.long (1 : Int64)), .second, .unset, .unset] [(.ref a1), (.ref m2_31), (.ref b13), (.ref b13)])) rfl rfl (hb hby d22_47)
  have J40 : ∀ t, Steps p.tables e below (T39.setTop (mkF m 50 #[.val (.ref a1), .val (.long (1 : Int64)), .second, .unset, .unset] [(.int (1 : Int32)), (.ref m2_31), (.ref b13), (.ref b13)])) t → Steps p.tables e below (s₁.setTop (entryFrame m #[(.ref a1), (.long (1 : Int64))] 5)) t := fun t k => J36 t (st39 t k)
  have f41 := A13.keep K31
  have f42 := F13_signum.keep K31 nin0
  have f43 := F13_mag.keep K31 nin0
  have f44 := F13_bitLengthPlusOne.keep K31 nin0
  obtain ⟨_, _, ⟨T45, L45, k45, n45⟩, -, X45, ⟨Lc45, hQ45, l45, y45, z45⟩, st45⟩ := X39.specialBack hx (y := (⟨"java/math/BigInteger", "<init>", "([II)V"⟩ : MethodName)) rfl hown (mvT hZ (hw _ (List.mem_of_getElem? (i := 177) rfl))) (mvT hZ (hw _ (List.mem_of_getElem? (i := 178) rfl))) (mvT hZ (hw _ (List.mem_of_getElem? (i := 179) rfl))) (by decide) (backOf (W := 1) (rm26 l Z a0 hw [] b13 m2_31 mcl'_31 (.int (0 : Int32)) .null T31.heap n0 Z34 f41 ge17 f42 f43 f44 p31_1 p31_2 p31_3 p31_4 (Nat.ne_of_lt (Nat.lt_of_lt_of_le A13.lt p31_5))) hZ (hw _ (List.mem_of_getElem? (i := 179) rfl)) (hw _ (List.mem_of_getElem? (i := 145) rfl)) (by decide) (by decide)) (g := (mkF m 50 #[.val (.ref a1), .val (.long (1 : Int64)), .second, .unset, .unset] [(.int (1 : Int32)), (.ref m2_31), (.ref b13), (.ref b13)])) rfl (by rw [hml]; rfl) (Steps.refl _) (a := b13) (argsL := [(.ref m2_31), (.int (1 : Int32))]) (rest := [(.ref b13)]) (lenOf pd_8 rfl) rfl (by show 2 * 0 + _ ≤ _; exact Nat.le_of_eq rfl) (hb hby d22_50) (fun _ _ => ⟨rfl, e39, (by decide : 2 + 0 ≤ _), (by decide : 8 + 0 ≤ _)⟩)
  dsimp only [Pt.U, Pt.locs, Pt.cells, Pt.slots] at X45 l45 y45 z45 st45 hQ45
  subst y45 z45
  obtain ⟨rfl, Nq45, K45, p45_1, p45_2, p45_3, p45_4⟩ := hQ45
  have N46 : Fr n0 L45 := by rw [l45]; exact Fr.app N32 Nq45
  have J47 : ∀ t, Steps p.tables e below (T45.setTop (mkF m 53 #[.val (.ref a1), .val (.long (1 : Int64)), .second, .unset, .unset] [(.ref b13)])) t → Steps p.tables e below (s₁.setTop (entryFrame m #[(.ref a1), (.long (1 : Int64))] 5)) t := fun t k => J40 t (st45.trans k)
  have Z48 : n0 ≤ T45.heap.size := Nat.le_trans Z34 K45.1
  have KK49 : Keep h0 T45.heap [] := KK35.trans K45 (allS (Or.inr sz18) all0)
  obtain ⟨fs, hr, hrun, hended, hW, hsame⟩ := X45.leave (v := some (.ref b13)) (fun h => by rw [Bd.returns] at h; cases h)
  have f50 : Arr Z T45.heap m2_31 mcl'_31 .int := ⟨K45.2.1 _ _ p31_1.1 (ninS (Ne.symm (Nat.ne_of_lt (Nat.lt_of_lt_of_le A13.lt p31_5))) nin0), p31_1.2⟩
  refine ⟨_, _, J47 _ ?_, hrun, hended, _, _, rfl, ?_, ⟨_, rfl⟩, hW, hsame.mono (by decide) (by decide)⟩
  · show Steps p.tables e below (T45.setTop (mkF m 53 #[.val (.ref a1), .val (.long (1 : Int64)), .second, .unset, .unset] [(.ref b13)])) _
    jvm_step X45.here [X45.here.top, hx, (hb hby d22_53), X45.method', Bd.returns, Value.isRef, FieldType.isReference]
    first | (intro acts; rw [hr _ acts rfl rfl rfl]) | rw [hr _ _ rfl rfl rfl]
    exact Steps.refl _
  · show Q22 Z a1 mg mcl h0 n0 _ T45.heap _
    exact ⟨b13, m2_31, mcl'_31, rfl, N46, KK49, p45_1, p45_2, p45_3, p45_4, f50, p31_2, p31_3, p31_4, sz18, (Nat.le_trans KK20.1 p31_5), (Nat.ne_of_lt (Nat.lt_of_lt_of_le A13.lt p31_5)), ge17⟩
theorem d28_0 : decode jdk_17_method_11_code 0 = .ok (.aload_n 0, 1) := by decide +kernel
theorem d28_1 : decode jdk_17_method_11_code 1 = .ok (.invokevirtual 210, 3) := by decide +kernel
theorem d28_4 : decode jdk_17_method_11_code 4 = .ok (.ldc 9, 2) := by decide +kernel
theorem d28_6 : decode jdk_17_method_11_code 6 = .ok (.if_acmp .ne 7, 3) := by decide +kernel
theorem d28_9 : decode jdk_17_method_11_code 9 = .ok (.aload_n 0, 1) := by decide +kernel
theorem d28_10 : decode jdk_17_method_11_code 10 = .ok (.goto 20, 3) := by decide +kernel
theorem d28_30 : decode jdk_17_method_11_code 30 = .ok (.areturn, 1) := by decide +kernel
theorem pn_28 : plainName "java/math/BigDecimal" = true := by first | (simp [plainName, overriddenIn]; done) | decide +kernel
theorem ef_28_x (m : MethodId) (x0 : Addr) : entryFrame m #[(.ref x0)] 1 = mkF m 0 #[.val (.ref x0)] [] := by first | (simp [entryFrame, mkF, argsToLocals, Value.category]; done) | rfl
def Q28 (Z : State) (a1 : Addr) (h0 : Heap) (n0 : Nat) (v : Option Value) (h : Heap) (L : List Loc) : Prop := v = some (.ref a1) ∧ Fr n0 L ∧ h = h0
set_option maxRecDepth 65536 in
set_option maxHeartbeats 40000000 in
theorem rm28 (l : Launch) (Z : State) (a0 : Array Value) (hw : ∀ d ∈ tables_1, d.before a0 Z = true) (ws : List Jvm.Cond) (a1 : Addr) (h0 : Heap) (n0 : Nat) (Z0 : n0 ≤ h0.size) (E_a1 : Exa Z h0 a1 "java/math/BigInteger") (hM : MirrorMade Z "java/math/BigInteger") :
    MetFree l (⟨"java/math/BigDecimal", "toStrictBigInteger", "(Ljava/math/BigInteger;)Ljava/math/BigInteger;"⟩ : MethodName) (head1 (Jvm.Cond.code (⟨"java/math/BigDecimal", "toStrictBigInteger", "(Ljava/math/BigInteger;)Ljava/math/BigInteger;"⟩ : MethodName) jdk_17_method_11_code 1 (some (.object "java/math/BigInteger")) :: ws) ({ frames := 1, cells := 0, slots := 0, locals := 14 } : Room)) (fun a U => a = #[(.ref a1)] ∧ Z.Warmed39 U.vm ∧ U.heap = h0) (fun _ _ _ _ _ => True) (fun _ U o U' => ∃ v L, o = .returned v ∧ Q28 Z a1 h0 n0 v U'.heap L ∧ FrameEnd U o U' L ({ frames := 1, cells := 0, slots := 0, locals := 14 } : Room).cells ({ frames := 1, cells := 0, slots := 0, locals := 14 } : Room).slots) := by
  refine MetFree.of_bodySF (plainFor_of_name pn_28) hisR ?_
  intro p e s m args below meth c s₁ Bd hml0 hP hK
  obtain ⟨rfl, hZ, hh⟩ := hP
  have hx := Bd.exec
  have hby := Bd.bytes
  have hml : c.maxLocals = 1 := hml0
  have hown : s.vm.findClass "java/math/BigDecimal" = some m.cls := findClass_of_methodNamed Bd.named
  have hnm := (name_of_methodNamed Bd.named Bd.method).1
  have X0 : Stand p l e ({ frames := 1, cells := 0, slots := 0, locals := 14 } : Room) s m #[(.ref a1)] below meth c s₁ [] 0 0 := Stand.of_body Bd
  have e0 : s₁.heap = h0 := by rw [← hh, Bd.state]; rfl
  have N0 := Fr.nil n0
  have pre0 : ∀ t, Steps p.tables e below (s₁.setTop (mkF m 0 #[.val (.ref a1)] [])) t → Steps p.tables e below (s₁.setTop (entryFrame m #[(.ref a1)] 1)) t := fun t k => castTop (ef_28_x m a1) k
  obtain ⟨cM, kM, mir, m1, m2, m3, m4⟩ := own_mir (args := #[(.ref a1)]) hZ hM
  have J1 : ∀ t, Steps p.tables e below (s₁.setTop (mkF m 1 #[.val (.ref a1)] [(.ref a1)])) t → Steps p.tables e below (s₁.setTop (entryFrame m #[(.ref a1)] 1)) t := fun t k => pre0 t (by
      show Steps p.tables e below (s₁.setTop (mkF m 0 #[.val (.ref a1)] [])) _
      refine XS.aloadN X0.here hx rfl (hb hby d28_0) rfl rfl ?_
      exact k)
  obtain ⟨cq2, kq2, q2a, q2b, q2c⟩ := isOf hZ e0 E_a1
  obtain ⟨vm2, X2, st2⟩ := X0.getClassOf hx hown (mvT hZ (hw _ (List.mem_of_getElem? (i := 187) rfl))) (mvT hZ (hw _ (List.mem_of_getElem? (i := 188) rfl))) (notFace_of_selects (args := #[]) (mvT hZ (hw _ (List.mem_of_getElem? (i := 190) rfl)))) (mvT hZ (hw _ (List.mem_of_getElem? (i := 190) rfl))) (mvT hZ (hw _ (List.mem_of_getElem? (i := 189) rfl))) (mvT hZ (hw _ (List.mem_of_getElem? (i := 191) rfl))) q2a q2c (kc := kM) (by rw [Option.some.inj (q2a.symm.trans m1)]; exact m2) m3 (g := (mkF m 1 #[.val (.ref a1)] [(.ref a1)])) rfl (by rw [hml]; rfl) (rest := []) rfl (hb hby d28_1) (by decide) (by show 2 * 0 + 0 + (3 + 11) ≤ _; decide)
  obtain ⟨T2, hT2⟩ : ∃ z, z = s₁.setVm vm2 := ⟨_, rfl⟩
  rw [← hT2] at X2 st2
  have e2 : T2.heap = h0 := by rw [hT2]; exact e0
  have J3 : ∀ t, Steps p.tables e below (T2.setTop (mkF m 4 #[.val (.ref a1)] [(.ref mir)])) t → Steps p.tables e below (s₁.setTop (entryFrame m #[(.ref a1)] 1)) t := fun t k => J1 t (st2 t k)
  obtain ⟨vm4, X4, st4⟩ := X2.ldcMirror hx hown (mvT hZ (hw _ (List.mem_of_getElem? (i := 192) rfl))) m4 (g := (mkF m 4 #[.val (.ref a1)] [(.ref mir)])) rfl (hb hby d28_4)
  obtain ⟨T4, hT4⟩ : ∃ z, z = T2.setVm vm4 := ⟨_, rfl⟩
  rw [← hT4] at X4 st4
  have e4 : T4.heap = h0 := by rw [hT4]; exact e2
  have J5 : ∀ t, Steps p.tables e below (T4.setTop (mkF m 6 #[.val (.ref a1)] [(.ref mir), (.ref mir)])) t → Steps p.tables e below (s₁.setTop (entryFrame m #[(.ref a1)] 1)) t := fun t k => J3 t (st4 t k)
  have J6 : ∀ t, Steps p.tables e below (T4.setTop (mkF m 30 #[.val (.ref a1)] [(.ref a1)])) t → Steps p.tables e below (s₁.setTop (entryFrame m #[(.ref a1)] 1)) t := fun t k => J5 t (by
      show Steps p.tables e below (T4.setTop (mkF m 6 #[.val (.ref a1)] [(.ref mir), (.ref mir)])) _
      refine Jvm.RoadKit.acmp (g := (mkF m 6 #[.val (.ref a1)] [(.ref mir), (.ref mir)])) X4 hx rfl rfl rfl (pc0 := 6) (pc' := 9) (same := true) rfl (hb hby d28_6) rfl (decide_eq_true rfl) (by decide) (by decide) ?_
      show Steps p.tables e below (T4.setTop (mkF m 9 #[.val (.ref a1)] [])) _
      refine XS.aloadN X4.here hx rfl (hb hby d28_9) rfl rfl ?_
      show Steps p.tables e below (T4.setTop (mkF m 10 #[.val (.ref a1)] [(.ref a1)])) _
      refine XS.goto X4.here hx rfl (pc0 := 10) (pc' := 30) rfl (hb hby d28_10) (by decide) (by decide) ?_
      exact k)
  obtain ⟨fs, hr, hrun, hended, hW, hsame⟩ := X4.leave (v := some (.ref a1)) (fun h => by rw [Bd.returns] at h; cases h)
  refine ⟨_, _, J6 _ ?_, hrun, hended, _, _, rfl, ?_, ⟨_, rfl⟩, hW, hsame.mono (by decide) (by decide)⟩
  · show Steps p.tables e below (T4.setTop (mkF m 30 #[.val (.ref a1)] [(.ref a1)])) _
    jvm_step X4.here [X4.here.top, hx, (hb hby d28_30), X4.method', Bd.returns, Value.isRef, FieldType.isReference]
    first | (intro acts; rw [hr _ acts rfl rfl rfl]) | rw [hr _ _ rfl rfl rfl]
    exact Steps.refl _
  · show Q28 Z a1 h0 n0 _ T4.heap _
    rw [e4]
    exact ⟨rfl, N0, rfl⟩
theorem d29_0 : decode jdk_17_method_107_code 0 = .ok (.aload_n 0, 1) := by decide +kernel
theorem d29_1 : decode jdk_17_method_107_code 1 = .ok (.getfield 878, 3) := by decide +kernel
theorem d29_4 : decode jdk_17_method_107_code 4 = .ok (.astore_n 1, 1) := by decide +kernel
theorem d29_5 : decode jdk_17_method_107_code 5 = .ok (.aload_n 1, 1) := by decide +kernel
theorem d29_6 : decode jdk_17_method_107_code 6 = .ok (.arraylength, 1) := by decide +kernel
theorem d29_7 : decode jdk_17_method_107_code 7 = .ok (.istore_n 2, 1) := by decide +kernel
theorem d29_8 : decode jdk_17_method_107_code 8 = .ok (.iload_n 2, 1) := by decide +kernel
theorem d29_9 : decode jdk_17_method_107_code 9 = .ok (.ifCond .ne 5, 3) := by decide +kernel
theorem d29_14 : decode jdk_17_method_107_code 14 = .ok (.aload_n 1, 1) := by decide +kernel
theorem d29_15 : decode jdk_17_method_107_code 15 = .ok (.iconst 0, 1) := by decide +kernel
theorem d29_16 : decode jdk_17_method_107_code 16 = .ok (.iaload, 1) := by decide +kernel
theorem d29_17 : decode jdk_17_method_107_code 17 = .ok (.istore_n 3, 1) := by decide +kernel
theorem d29_18 : decode jdk_17_method_107_code 18 = .ok (.iload_n 2, 1) := by decide +kernel
theorem d29_19 : decode jdk_17_method_107_code 19 = .ok (.iconst 2, 1) := by decide +kernel
theorem d29_20 : decode jdk_17_method_107_code 20 = .ok (.if_icmp .gt 12, 3) := by decide +kernel
theorem d29_23 : decode jdk_17_method_107_code 23 = .ok (.iload_n 2, 1) := by decide +kernel
theorem d29_24 : decode jdk_17_method_107_code 24 = .ok (.iconst 2, 1) := by decide +kernel
theorem d29_25 : decode jdk_17_method_107_code 25 = .ok (.if_icmp .ne 11, 3) := by decide +kernel
theorem d29_28 : decode jdk_17_method_107_code 28 = .ok (.iload_n 3, 1) := by decide +kernel
theorem d29_29 : decode jdk_17_method_107_code 29 = .ok (.ifCond .ge 7, 3) := by decide +kernel
theorem d29_32 : decode jdk_17_method_107_code 32 = .ok (.ldc2_w 125, 3) := by decide +kernel
theorem d29_35 : decode jdk_17_method_107_code 35 = .ok (.lreturn, 1) := by decide +kernel
theorem pn_29 : plainName "java/math/BigDecimal" = true := by first | (simp [plainName, overriddenIn]; done) | decide +kernel
theorem ef_29_x (m : MethodId) (x0 : Addr) : entryFrame m #[(.ref x0)] 6 = mkF m 0 #[.val (.ref x0), .unset, .unset, .unset, .unset, .unset] [] := by first | (simp [entryFrame, mkF, argsToLocals, Value.category]; done) | rfl
def Q29 (Z : State) (a1 : Addr) (mg : Addr) (mcl : Cell) (h0 : Heap) (n0 : Nat) (v : Option Value) (h : Heap) (L : List Loc) : Prop := v = some (.long (-9223372036854775808 : Int64)) ∧ Fr n0 L ∧ h = h0
set_option maxRecDepth 65536 in
set_option maxHeartbeats 40000000 in
theorem rm29 (l : Launch) (Z : State) (a0 : Array Value) (hw : ∀ d ∈ tables_1, d.before a0 Z = true) (ws : List Jvm.Cond) (a1 : Addr) (mg : Addr) (mcl : Cell) (h0 : Heap) (n0 : Nat) (Z0 : n0 ≤ h0.size) (F_mag_a1 : Fld Z h0 a1 "java/math/BigInteger" "mag" "[I" (.ref mg)) (Ar_mg : Arr Z h0 mg mcl .int) (hmz : mcl.slots.size = 2) (hm0 : mcl.slots[0]? = some (.int (-2147483648 : Int32))) (hm1 : mcl.slots[1]? = some (.int (0 : Int32))) :
    MetFree l (⟨"java/math/BigDecimal", "compactValFor", "(Ljava/math/BigInteger;)J"⟩ : MethodName) (head1 (Jvm.Cond.code (⟨"java/math/BigDecimal", "compactValFor", "(Ljava/math/BigInteger;)J"⟩ : MethodName) jdk_17_method_107_code 6 (some .long) :: ws) ({ frames := 0, cells := 0, slots := 0, locals := 0 } : Room)) (fun a U => a = #[(.ref a1)] ∧ Z.Warmed39 U.vm ∧ U.heap = h0) (fun _ _ _ _ _ => True) (fun _ U o U' => ∃ v L, o = .returned v ∧ Q29 Z a1 mg mcl h0 n0 v U'.heap L ∧ FrameEnd U o U' L ({ frames := 0, cells := 0, slots := 0, locals := 0 } : Room).cells ({ frames := 0, cells := 0, slots := 0, locals := 0 } : Room).slots) := by
  refine MetFree.of_bodySF (plainFor_of_name pn_29) hisR ?_
  intro p e s m args below meth c s₁ Bd hml0 hP hK
  obtain ⟨rfl, hZ, hh⟩ := hP
  have hx := Bd.exec
  have hby := Bd.bytes
  have hml : c.maxLocals = 6 := hml0
  have hown : s.vm.findClass "java/math/BigDecimal" = some m.cls := findClass_of_methodNamed Bd.named
  have hnm := (name_of_methodNamed Bd.named Bd.method).1
  have X0 : Stand p l e ({ frames := 0, cells := 0, slots := 0, locals := 0 } : Room) s m #[(.ref a1)] below meth c s₁ [] 0 0 := Stand.of_body Bd
  have e0 : s₁.heap = h0 := by rw [← hh, Bd.state]; rfl
  have N0 := Fr.nil n0
  have pre0 : ∀ t, Steps p.tables e below (s₁.setTop (mkF m 0 #[.val (.ref a1), .unset, .unset, .unset, .unset, .unset] [])) t → Steps p.tables e below (s₁.setTop (entryFrame m #[(.ref a1)] 6)) t := fun t k => castTop (ef_29_x m a1) k
  have J1 : ∀ t, Steps p.tables e below (s₁.setTop (mkF m 1 #[.val (.ref a1), .unset, .unset, .unset, .unset, .unset] [(.ref a1)])) t → Steps p.tables e below (s₁.setTop (entryFrame m #[(.ref a1)] 6)) t := fun t k => pre0 t (by
      show Steps p.tables e below (s₁.setTop (mkF m 0 #[.val (.ref a1), .unset, .unset, .unset, .unset, .unset] [])) _
      refine XS.aloadN X0.here hx rfl (hb hby d29_0) rfl rfl ?_
      exact k)
  obtain ⟨T2, X2, e2, st2⟩ := getF X0 hx hZ hown (host := "") (Or.inl (hw _ (List.mem_of_getElem? (i := 196) rfl))) Via.refl e0 F_mag_a1 (g := (mkF m 1 #[.val (.ref a1), .unset, .unset, .unset, .unset, .unset] [(.ref a1)])) rfl rfl (hb hby d29_1)
  have J3 : ∀ t, Steps p.tables e below (T2.setTop (mkF m 4 #[.val (.ref a1), .unset, .unset, .unset, .unset, .unset] [(.ref mg)])) t → Steps p.tables e below (s₁.setTop (entryFrame m #[(.ref a1)] 6)) t := fun t k => J1 t (st2 t k)
  have J4 : ∀ t, Steps p.tables e below (T2.setTop (mkF m 35 #[.val (.ref a1), .val (.ref mg), .val (.int (2 : Int32)), .val (.int (-2147483648 : Int32)), .unset, .unset] [(.long (-9223372036854775808 : Int64))])) t → Steps p.tables e below (s₁.setTop (entryFrame m #[(.ref a1)] 6)) t := fun t k => J3 t (by
      show Steps p.tables e below (T2.setTop (mkF m 4 #[.val (.ref a1), .unset, .unset, .unset, .unset, .unset] [(.ref mg)])) _
      refine XS.astoreN X2.here hx rfl (hb hby d29_4) rfl rfl (l' := #[.val (.ref a1), .val (.ref mg), .unset, .unset, .unset, .unset]) rfl ?_
      show Steps p.tables e below (T2.setTop (mkF m 5 #[.val (.ref a1), .val (.ref mg), .unset, .unset, .unset, .unset] [])) _
      refine XS.aloadN X2.here hx rfl (hb hby d29_5) rfl rfl ?_
      show Steps p.tables e below (T2.setTop (mkF m 6 #[.val (.ref a1), .val (.ref mg), .unset, .unset, .unset, .unset] [(.ref mg)])) _
      refine X2.arraylength hx (cell := mcl) (by rw [e2]; exact Ar_mg.1) (State.isArrayOf_alike hZ.alike Ar_mg.2.1) (g := (mkF m 6 #[.val (.ref a1), .val (.ref mg), .unset, .unset, .unset, .unset] [(.ref mg)])) rfl (rest := []) rfl (hb hby d29_6) _ ?_
      rw [(show mcl.slots.size.toInt32 = (2 : Int32) from by rw [hmz]; rfl)]
      show Steps p.tables e below (T2.setTop (mkF m 7 #[.val (.ref a1), .val (.ref mg), .unset, .unset, .unset, .unset] [(.int (2 : Int32))])) _
      refine XS.istoreN X2.here hx rfl (hb hby d29_7) rfl (l' := #[.val (.ref a1), .val (.ref mg), .val (.int (2 : Int32)), .unset, .unset, .unset]) rfl ?_
      show Steps p.tables e below (T2.setTop (mkF m 8 #[.val (.ref a1), .val (.ref mg), .val (.int (2 : Int32)), .unset, .unset, .unset] [])) _
      refine XS.iloadN X2.here hx rfl (hb hby d29_8) rfl ?_
      show Steps p.tables e below (T2.setTop (mkF m 9 #[.val (.ref a1), .val (.ref mg), .val (.int (2 : Int32)), .unset, .unset, .unset] [(.int (2 : Int32))])) _
      refine XS.ifYes X2.here hx rfl (pc0 := 9) (pc' := 14) rfl (hb hby d29_9) rfl ((if0 _ _).trans (feq (by decide)).2) (by decide) (by decide) ?_
      show Steps p.tables e below (T2.setTop (mkF m 14 #[.val (.ref a1), .val (.ref mg), .val (.int (2 : Int32)), .unset, .unset, .unset] [])) _
      refine XS.aloadN X2.here hx rfl (hb hby d29_14) rfl rfl ?_
      show Steps p.tables e below (T2.setTop (mkF m 15 #[.val (.ref a1), .val (.ref mg), .val (.int (2 : Int32)), .unset, .unset, .unset] [(.ref mg)])) _
      refine XS.iconst X2.here hx rfl (hb hby d29_15) ?_
      show Steps p.tables e below (T2.setTop (mkF m 16 #[.val (.ref a1), .val (.ref mg), .val (.int (2 : Int32)), .unset, .unset, .unset] [(.int (0 : Int32)), (.ref mg)])) _
      refine X2.iaload hx (j := (0 : Int32)) (v := (.int (-2147483648 : Int32))) (by rw [e2]; exact Ar_mg.1) (State.isArrayOf_alike hZ.alike Ar_mg.2.1) Ar_mg.2.2 (own_in hmz (by decide) (by decide)) (own_at (by decide) hm0) (g := (mkF m 16 #[.val (.ref a1), .val (.ref mg), .val (.int (2 : Int32)), .unset, .unset, .unset] [(.int (0 : Int32)), (.ref mg)])) rfl rfl (hb hby d29_16) _ ?_
      show Steps p.tables e below (T2.setTop (mkF m 17 #[.val (.ref a1), .val (.ref mg), .val (.int (2 : Int32)), .unset, .unset, .unset] [(.int (-2147483648 : Int32))])) _
      refine XS.istoreN X2.here hx rfl (hb hby d29_17) rfl (l' := #[.val (.ref a1), .val (.ref mg), .val (.int (2 : Int32)), .val (.int (-2147483648 : Int32)), .unset, .unset]) rfl ?_
      show Steps p.tables e below (T2.setTop (mkF m 18 #[.val (.ref a1), .val (.ref mg), .val (.int (2 : Int32)), .val (.int (-2147483648 : Int32)), .unset, .unset] [])) _
      refine XS.iloadN X2.here hx rfl (hb hby d29_18) rfl ?_
      show Steps p.tables e below (T2.setTop (mkF m 19 #[.val (.ref a1), .val (.ref mg), .val (.int (2 : Int32)), .val (.int (-2147483648 : Int32)), .unset, .unset] [(.int (2 : Int32))])) _
      refine XS.iconst X2.here hx rfl (hb hby d29_19) ?_
      show Steps p.tables e below (T2.setTop (mkF m 20 #[.val (.ref a1), .val (.ref mg), .val (.int (2 : Int32)), .val (.int (-2147483648 : Int32)), .unset, .unset] [(.int (2 : Int32)), (.int (2 : Int32))])) _
      refine XS.icmpNo X2.here hx rfl (hb hby d29_20) rfl (flt (by decide)).2.2.1 ?_
      show Steps p.tables e below (T2.setTop (mkF m 23 #[.val (.ref a1), .val (.ref mg), .val (.int (2 : Int32)), .val (.int (-2147483648 : Int32)), .unset, .unset] [])) _
      refine XS.iloadN X2.here hx rfl (hb hby d29_23) rfl ?_
      show Steps p.tables e below (T2.setTop (mkF m 24 #[.val (.ref a1), .val (.ref mg), .val (.int (2 : Int32)), .val (.int (-2147483648 : Int32)), .unset, .unset] [(.int (2 : Int32))])) _
      refine XS.iconst X2.here hx rfl (hb hby d29_24) ?_
      show Steps p.tables e below (T2.setTop (mkF m 25 #[.val (.ref a1), .val (.ref mg), .val (.int (2 : Int32)), .val (.int (-2147483648 : Int32)), .unset, .unset] [(.int (2 : Int32)), (.int (2 : Int32))])) _
      refine XS.icmpNo X2.here hx rfl (hb hby d29_25) rfl (teq (by decide)).2 ?_
      show Steps p.tables e below (T2.setTop (mkF m 28 #[.val (.ref a1), .val (.ref mg), .val (.int (2 : Int32)), .val (.int (-2147483648 : Int32)), .unset, .unset] [])) _
      refine XS.iloadN X2.here hx rfl (hb hby d29_28) rfl ?_
      show Steps p.tables e below (T2.setTop (mkF m 29 #[.val (.ref a1), .val (.ref mg), .val (.int (2 : Int32)), .val (.int (-2147483648 : Int32)), .unset, .unset] [(.int (-2147483648 : Int32))])) _
      refine XS.ifNo X2.here hx rfl (hb hby d29_29) rfl ((if0 _ _).trans (tlt (by decide)).2.1) ?_
      show Steps p.tables e below (T2.setTop (mkF m 32 #[.val (.ref a1), .val (.ref mg), .val (.int (2 : Int32)), .val (.int (-2147483648 : Int32)), .unset, .unset] [])) _
      refine X2.ldc2Long hx hown (mvT hZ (hw _ (List.mem_of_getElem? (i := 109) rfl))) (g := (mkF m 32 #[.val (.ref a1), .val (.ref mg), .val (.int (2 : Int32)), .val (.int (-2147483648 : Int32)), .unset, .unset] [])) rfl (hb hby d29_32) _ ?_
      exact k)
  obtain ⟨fs, hr, hrun, hended, hW, hsame⟩ := X2.leave (v := some (.long (-9223372036854775808 : Int64))) (fun h => by rw [Bd.returns] at h; cases h)
  refine ⟨_, _, J4 _ ?_, hrun, hended, _, _, rfl, ?_, ⟨_, rfl⟩, hW, hsame.mono (by decide) (by decide)⟩
  · show Steps p.tables e below (T2.setTop (mkF m 35 #[.val (.ref a1), .val (.ref mg), .val (.int (2 : Int32)), .val (.int (-2147483648 : Int32)), .unset, .unset] [(.long (-9223372036854775808 : Int64))])) _
    exact retJ X2 hx Bd.returns (hb hby d29_35) hr
  · show Q29 Z a1 mg mcl h0 n0 _ T2.heap _
    rw [e2]
    exact ⟨rfl, N0, rfl⟩
theorem d27_0 : decode jdk_17_method_14_code 0 = .ok (.aload_n 0, 1) := by decide +kernel
theorem d27_1 : decode jdk_17_method_14_code 1 = .ok (.invokespecial 11, 3) := by decide +kernel
theorem d27_4 : decode jdk_17_method_14_code 4 = .ok (.aload_n 0, 1) := by decide +kernel
theorem d27_5 : decode jdk_17_method_14_code 5 = .ok (.aload_n 1, 1) := by decide +kernel
theorem d27_6 : decode jdk_17_method_14_code 6 = .ok (.invokestatic 229, 3) := by decide +kernel
theorem pd_9 : parseMethodDescriptor "(Ljava/math/BigInteger;)Ljava/math/BigInteger;" = some ⟨[(.object "java/math/BigInteger")], some (.object "java/math/BigInteger")⟩ := by decide +kernel
theorem d27_9 : decode jdk_17_method_14_code 9 = .ok (.putfield 28, 3) := by decide +kernel
theorem d27_12 : decode jdk_17_method_14_code 12 = .ok (.aload_n 0, 1) := by decide +kernel
theorem d27_13 : decode jdk_17_method_14_code 13 = .ok (.aload_n 0, 1) := by decide +kernel
theorem d27_14 : decode jdk_17_method_14_code 14 = .ok (.getfield 28, 3) := by decide +kernel
theorem d27_17 : decode jdk_17_method_14_code 17 = .ok (.invokestatic 121, 3) := by decide +kernel
theorem pd_10 : parseMethodDescriptor "(Ljava/math/BigInteger;)J" = some ⟨[(.object "java/math/BigInteger")], some .long⟩ := by decide +kernel
theorem d27_20 : decode jdk_17_method_14_code 20 = .ok (.putfield 24, 3) := by decide +kernel
theorem d27_23 : decode jdk_17_method_14_code 23 = .ok (.aload_n 0, 1) := by decide +kernel
theorem d27_24 : decode jdk_17_method_14_code 24 = .ok (.iload_n 2, 1) := by decide +kernel
theorem d27_25 : decode jdk_17_method_14_code 25 = .ok (.putfield 17, 3) := by decide +kernel
theorem d27_28 : decode jdk_17_method_14_code 28 = .ok (.return_, 1) := by decide +kernel
theorem pn_27 : plainName "java/math/BigDecimal" = true := by first | (simp [plainName, overriddenIn]; done) | decide +kernel
theorem ef_27_xxx (m : MethodId) (x0 : Addr) (x1 : Addr) (x2 : Int32) : entryFrame m #[(.ref x0), (.ref x1), (.int x2)] 3 = mkF m 0 #[.val (.ref x0), .val (.ref x1), .val (.int x2)] [] := by first | (simp [entryFrame, mkF, argsToLocals, Value.category]; done) | rfl
def Q27 (Z : State) (a1 : Addr) (bi : Addr) (mg : Addr) (mcl : Cell) (u1 : Value) (u2 : Value) (u3 : Value) (u4 : Value) (h0 : Heap) (n0 : Nat) (v : Option Value) (h : Heap) (L : List Loc) : Prop := v = none ∧ Fr n0 L ∧ Keep h0 h [a1] ∧ (Exa Z h a1 "java/math/BigDecimal") ∧ (Fld Z h a1 "java/math/BigDecimal" "intVal" "Ljava/math/BigInteger;" (.ref bi)) ∧ (Fld Z h a1 "java/math/BigDecimal" "intCompact" "J" (.long (-9223372036854775808 : Int64))) ∧ (Fld Z h a1 "java/math/BigDecimal" "scale" "I" (.int (2 : Int32)))
set_option maxRecDepth 65536 in
set_option maxHeartbeats 40000000 in
theorem rm27 (l : Launch) (Z : State) (a0 : Array Value) (hw : ∀ d ∈ tables_1, d.before a0 Z = true) (ws : List Jvm.Cond) (a1 : Addr) (bi : Addr) (mg : Addr) (mcl : Cell) (u1 : Value) (u2 : Value) (u3 : Value) (u4 : Value) (h0 : Heap) (n0 : Nat) (Z0 : n0 ≤ h0.size) (E_a1 : Exa Z h0 a1 "java/math/BigDecimal") (g_a1 : n0 ≤ a1) (E_bi : Exa Z h0 bi "java/math/BigInteger") (F_mag_bi : Fld Z h0 bi "java/math/BigInteger" "mag" "[I" (.ref mg)) (Ar_mg : Arr Z h0 mg mcl .int) (hmz : mcl.slots.size = 2) (hm0 : mcl.slots[0]? = some (.int (-2147483648 : Int32))) (hm1 : mcl.slots[1]? = some (.int (0 : Int32))) (hM : MirrorMade Z "java/math/BigInteger") (ne_bi_a1 : bi ≠ a1) (ne_mg_a1 : mg ≠ a1) (F_intVal_a1 : Fld Z h0 a1 "java/math/BigDecimal" "intVal" "Ljava/math/BigInteger;" u1) (F_intCompact_a1 : Fld Z h0 a1 "java/math/BigDecimal" "intCompact" "J" u2) (F_scale_a1 : Fld Z h0 a1 "java/math/BigDecimal" "scale" "I" u3) (F_precision_a1 : Fld Z h0 a1 "java/math/BigDecimal" "precision" "I" u4) :
    MetFree l (⟨"java/math/BigDecimal", "<init>", "(Ljava/math/BigInteger;I)V"⟩ : MethodName) (head1 (Jvm.Cond.code (⟨"java/math/BigDecimal", "<init>", "(Ljava/math/BigInteger;I)V"⟩ : MethodName) jdk_17_method_14_code 3 none :: ws) ({ frames := 2, cells := 0, slots := 0, locals := 27 } : Room)) (fun a U => a = #[(.ref a1), (.ref bi), (.int (2 : Int32))] ∧ Z.Warmed39 U.vm ∧ U.heap = h0) (fun _ _ _ _ _ => True) (fun _ U o U' => ∃ v L, o = .returned v ∧ Q27 Z a1 bi mg mcl u1 u2 u3 u4 h0 n0 v U'.heap L ∧ FrameEnd U o U' L ({ frames := 2, cells := 0, slots := 0, locals := 27 } : Room).cells ({ frames := 2, cells := 0, slots := 0, locals := 27 } : Room).slots) := by
  refine MetFree.of_bodySF (plainFor_of_name pn_27) hisR ?_
  intro p e s m args below meth c s₁ Bd hml0 hP hK
  obtain ⟨rfl, hZ, hh⟩ := hP
  have hx := Bd.exec
  have hby := Bd.bytes
  have hml : c.maxLocals = 3 := hml0
  have hown : s.vm.findClass "java/math/BigDecimal" = some m.cls := findClass_of_methodNamed Bd.named
  have hnm := (name_of_methodNamed Bd.named Bd.method).1
  have X0 : Stand p l e ({ frames := 2, cells := 0, slots := 0, locals := 27 } : Room) s m #[(.ref a1), (.ref bi), (.int (2 : Int32))] below meth c s₁ [] 0 0 := Stand.of_body Bd
  have e0 : s₁.heap = h0 := by rw [← hh, Bd.state]; rfl
  have N0 := Fr.nil n0
  have pre0 : ∀ t, Steps p.tables e below (s₁.setTop (mkF m 0 #[.val (.ref a1), .val (.ref bi), .val (.int (2 : Int32))] [])) t → Steps p.tables e below (s₁.setTop (entryFrame m #[(.ref a1), (.ref bi), (.int (2 : Int32))] 3)) t := fun t k => castTop (ef_27_xxx m a1 bi (2 : Int32)) k
  have J1 : ∀ t, Steps p.tables e below (s₁.setTop (mkF m 1 #[.val (.ref a1), .val (.ref bi), .val (.int (2 : Int32))] [(.ref a1)])) t → Steps p.tables e below (s₁.setTop (entryFrame m #[(.ref a1), (.ref bi), (.int (2 : Int32))] 3)) t := fun t k => pre0 t (by
      show Steps p.tables e below (s₁.setTop (mkF m 0 #[.val (.ref a1), .val (.ref bi), .val (.int (2 : Int32))] [])) _
      refine XS.aloadN X0.here hx rfl (hb hby d27_0) rfl rfl ?_
      exact k)
  obtain ⟨_, _, ⟨T2, L2, k2, n2⟩, -, X2, ⟨Lc2, hQ2, l2, y2, z2⟩, st2⟩ := X0.specialBack hx (y := (⟨"java/lang/Number", "<init>", "()V"⟩ : MethodName)) rfl hown (mvT hZ (hw _ (List.mem_of_getElem? (i := 114) rfl))) (mvT hZ (hw _ (List.mem_of_getElem? (i := 115) rfl))) (mvT hZ (hw _ (List.mem_of_getElem? (i := 119) rfl))) (by decide) (backOf (W := 0) (rm15 l Z a0 hw [] a1 h0 n0 Z0 ) hZ (hw _ (List.mem_of_getElem? (i := 119) rfl)) (hw _ (List.mem_of_getElem? (i := 118) rfl)) (by decide) (by decide)) (g := (mkF m 1 #[.val (.ref a1), .val (.ref bi), .val (.int (2 : Int32))] [(.ref a1)])) rfl (by rw [hml]; rfl) (Steps.refl _) (a := a1) (argsL := []) (rest := []) (lenOf pd_1 rfl) rfl (by show 2 * 0 + _ ≤ _; exact Nat.le_of_eq rfl) (hb hby d27_1) (fun _ _ => ⟨rfl, e0, (by decide : 0 + 0 ≤ _), (by decide : 0 + 0 ≤ _)⟩)
  dsimp only [Pt.U, Pt.locs, Pt.cells, Pt.slots] at X2 l2 y2 z2 st2 hQ2
  subst y2 z2
  obtain ⟨rfl, Nq2, e2⟩ := hQ2
  have N3 : Fr n0 L2 := by rw [l2]; exact Fr.app N0 Nq2
  have J4 : ∀ t, Steps p.tables e below (T2.setTop (mkF m 4 #[.val (.ref a1), .val (.ref bi), .val (.int (2 : Int32))] [])) t → Steps p.tables e below (s₁.setTop (entryFrame m #[(.ref a1), (.ref bi), (.int (2 : Int32))] 3)) t := fun t k => J1 t (st2.trans k)
  have J5 : ∀ t, Steps p.tables e below (T2.setTop (mkF m 6 #[.val (.ref a1), .val (.ref bi), .val (.int (2 : Int32))] [(.ref bi), (.ref a1)])) t → Steps p.tables e below (s₁.setTop (entryFrame m #[(.ref a1), (.ref bi), (.int (2 : Int32))] 3)) t := fun t k => J4 t (by
      show Steps p.tables e below (T2.setTop (mkF m 4 #[.val (.ref a1), .val (.ref bi), .val (.int (2 : Int32))] [])) _
      refine XS.aloadN X2.here hx rfl (hb hby d27_4) rfl rfl ?_
      show Steps p.tables e below (T2.setTop (mkF m 5 #[.val (.ref a1), .val (.ref bi), .val (.int (2 : Int32))] [(.ref a1)])) _
      refine XS.aloadN X2.here hx rfl (hb hby d27_5) rfl rfl ?_
      exact k)
  obtain ⟨_, _, ⟨T6, L6, k6, n6⟩, -, X6, ⟨Lc6, hQ6, l6, y6, z6⟩, st6⟩ := Jvm.LawKit.callS X2 hx (y := (⟨"java/math/BigDecimal", "toStrictBigInteger", "(Ljava/math/BigInteger;)Ljava/math/BigInteger;"⟩ : MethodName)) hown (mvT hZ (hw _ (List.mem_of_getElem? (i := 184) rfl))) (mvT hZ (hw _ (List.mem_of_getElem? (i := 185) rfl))) (mvT hZ (hw _ (List.mem_of_getElem? (i := 105) rfl))) (mvT hZ (hw _ (List.mem_of_getElem? (i := 186) rfl))) (by decide) (backOf (W := 1) (rm28 l Z a0 hw [] bi h0 n0 Z0 E_bi (by assumption)) hZ (hw _ (List.mem_of_getElem? (i := 186) rfl)) (hw _ (List.mem_of_getElem? (i := 105) rfl)) (by decide) (by decide)) (g := (mkF m 6 #[.val (.ref a1), .val (.ref bi), .val (.int (2 : Int32))] [(.ref bi), (.ref a1)])) rfl (by rw [hml]; rfl) (argsL := [(.ref bi)]) (rest := [(.ref a1)]) (lenOf pd_9 rfl) rfl (by show 2 * 0 + _ ≤ _; exact Nat.le_of_eq rfl) (hb hby d27_6) (fun _ _ => ⟨rfl, e2, (by decide : 0 + 0 ≤ _), (by decide : 0 + 0 ≤ _)⟩)
  dsimp only [Pt.U, Pt.locs, Pt.cells, Pt.slots] at X6 l6 y6 z6 st6 hQ6
  subst y6 z6
  obtain ⟨rfl, Nq6, e6⟩ := hQ6
  have N7 : Fr n0 L6 := by rw [l6]; exact Fr.app N3 Nq6
  have J8 : ∀ t, Steps p.tables e below (T6.setTop (mkF m 9 #[.val (.ref a1), .val (.ref bi), .val (.int (2 : Int32))] [(.ref bi), (.ref a1)])) t → Steps p.tables e below (s₁.setTop (entryFrame m #[(.ref a1), (.ref bi), (.int (2 : Int32))] 3)) t := fun t k => J5 t (st6 t k)
  obtain ⟨T9, h9, X9, e9, W9, st9⟩ := putF X6 hx hZ hown (host := "") (Or.inl (hw _ (List.mem_of_getElem? (i := 127) rfl))) Via.refl e6 F_intVal_a1 E_a1 (Or.inr ⟨(hw _ (List.mem_of_getElem? (i := 128) rfl)), rfl, hnm⟩) (hw _ (List.mem_of_getElem? (i := 108) rfl)) (ty := (.object "java/math/BigInteger")) (by decide) rfl rfl (g := (mkF m 9 #[.val (.ref a1), .val (.ref bi), .val (.int (2 : Int32))] [(.ref bi), (.ref a1)])) rfl rfl (hb hby d27_9)
  have J10 : ∀ t, Steps p.tables e below (T9.setTop (mkF m 12 #[.val (.ref a1), .val (.ref bi), .val (.int (2 : Int32))] [])) t → Steps p.tables e below (s₁.setTop (entryFrame m #[(.ref a1), (.ref bi), (.int (2 : Int32))] 3)) t := fun t k => J8 t (st9 t k)
  have Z11 : n0 ≤ h9.size := Nat.le_trans Z0 (Keep.of_wr W9).1
  have KK12 : Keep h0 h9 [a1] := (Keep.refl h0 [a1]).wr W9 (Or.inl (List.mem_of_getElem? (i := 0) rfl))
  have N13 := Fr.snoc X9 N7 g_a1
  have Fw9 := F_intVal_a1.same W9
  have J14 : ∀ t, Steps p.tables e below (T9.setTop (mkF m 14 #[.val (.ref a1), .val (.ref bi), .val (.int (2 : Int32))] [(.ref a1), (.ref a1)])) t → Steps p.tables e below (s₁.setTop (entryFrame m #[(.ref a1), (.ref bi), (.int (2 : Int32))] 3)) t := fun t k => J10 t (by
      show Steps p.tables e below (T9.setTop (mkF m 12 #[.val (.ref a1), .val (.ref bi), .val (.int (2 : Int32))] [])) _
      refine XS.aloadN X9.here hx rfl (hb hby d27_12) rfl rfl ?_
      show Steps p.tables e below (T9.setTop (mkF m 13 #[.val (.ref a1), .val (.ref bi), .val (.int (2 : Int32))] [(.ref a1)])) _
      refine XS.aloadN X9.here hx rfl (hb hby d27_13) rfl rfl ?_
      exact k)
  obtain ⟨T15, X15, e15, st15⟩ := getF X9 hx hZ hown (host := "") (Or.inl (hw _ (List.mem_of_getElem? (i := 127) rfl))) Via.refl e9 Fw9 (g := (mkF m 14 #[.val (.ref a1), .val (.ref bi), .val (.int (2 : Int32))] [(.ref a1), (.ref a1)])) rfl rfl (hb hby d27_14)
  have J16 : ∀ t, Steps p.tables e below (T15.setTop (mkF m 17 #[.val (.ref a1), .val (.ref bi), .val (.int (2 : Int32))] [(.ref bi), (.ref a1)])) t → Steps p.tables e below (s₁.setTop (entryFrame m #[(.ref a1), (.ref bi), (.int (2 : Int32))] 3)) t := fun t k => J14 t (st15 t k)
  have f17 := F_mag_bi.other W9 (Or.inl ne_bi_a1)
  have f18 := Ar_mg.other W9 ne_mg_a1
  obtain ⟨_, _, ⟨T19, L19, k19, n19⟩, -, X19, ⟨Lc19, hQ19, l19, y19, z19⟩, st19⟩ := Jvm.LawKit.callS X15 hx (y := (⟨"java/math/BigDecimal", "compactValFor", "(Ljava/math/BigInteger;)J"⟩ : MethodName)) hown (mvT hZ (hw _ (List.mem_of_getElem? (i := 193) rfl))) (mvT hZ (hw _ (List.mem_of_getElem? (i := 194) rfl))) (mvT hZ (hw _ (List.mem_of_getElem? (i := 105) rfl))) (mvT hZ (hw _ (List.mem_of_getElem? (i := 195) rfl))) (by decide) (backOf (W := 1) (rm29 l Z a0 hw [] bi mg mcl h9 n0 Z11 f17 f18 (by assumption) (by assumption) (by assumption)) hZ (hw _ (List.mem_of_getElem? (i := 195) rfl)) (hw _ (List.mem_of_getElem? (i := 105) rfl)) (by decide) (by decide)) (g := (mkF m 17 #[.val (.ref a1), .val (.ref bi), .val (.int (2 : Int32))] [(.ref bi), (.ref a1)])) rfl (by rw [hml]; rfl) (argsL := [(.ref bi)]) (rest := [(.ref a1)]) (lenOf pd_10 rfl) rfl (by show 2 * 0 + _ ≤ _; exact Nat.le_of_eq rfl) (hb hby d27_17) (fun _ _ => ⟨rfl, e15, (by decide : 0 + 0 ≤ _), (by decide : 0 + 0 ≤ _)⟩)
  dsimp only [Pt.U, Pt.locs, Pt.cells, Pt.slots] at X19 l19 y19 z19 st19 hQ19
  subst y19 z19
  obtain ⟨rfl, Nq19, e19⟩ := hQ19
  have N20 : Fr n0 L19 := by rw [l19]; exact Fr.app N13 Nq19
  have J21 : ∀ t, Steps p.tables e below (T19.setTop (mkF m 20 #[.val (.ref a1), .val (.ref bi), .val (.int (2 : Int32))] [(.long (-9223372036854775808 : Int64)), (.ref a1)])) t → Steps p.tables e below (s₁.setTop (entryFrame m #[(.ref a1), (.ref bi), (.int (2 : Int32))] 3)) t := fun t k => J16 t (st19 t k)
  have f22 := F_intCompact_a1.other W9 (Or.inr (slot_ne (Or.inr (hw _ (List.mem_of_getElem? (i := 126) rfl))) (Or.inr (hw _ (List.mem_of_getElem? (i := 128) rfl))) (by decide) (t := .long) (t' := (.object "java/math/BigInteger")) (by decide) (by decide)))
  have f23 := E_a1.wr W9
  obtain ⟨T24, h24, X24, e24, W24, st24⟩ := putF X19 hx hZ hown (host := "") (Or.inl (hw _ (List.mem_of_getElem? (i := 125) rfl))) Via.refl e19 f22 f23 (Or.inr ⟨(hw _ (List.mem_of_getElem? (i := 126) rfl)), rfl, hnm⟩) (hw _ (List.mem_of_getElem? (i := 108) rfl)) (ty := .long) (by decide) rfl rfl (g := (mkF m 20 #[.val (.ref a1), .val (.ref bi), .val (.int (2 : Int32))] [(.long (-9223372036854775808 : Int64)), (.ref a1)])) rfl rfl (hb hby d27_20)
  have J25 : ∀ t, Steps p.tables e below (T24.setTop (mkF m 23 #[.val (.ref a1), .val (.ref bi), .val (.int (2 : Int32))] [])) t → Steps p.tables e below (s₁.setTop (entryFrame m #[(.ref a1), (.ref bi), (.int (2 : Int32))] 3)) t := fun t k => J21 t (st24 t k)
  have Z26 : n0 ≤ h24.size := Nat.le_trans Z11 (Keep.of_wr W24).1
  have KK27 : Keep h0 h24 [a1] := KK12.wr W24 (Or.inl (List.mem_of_getElem? (i := 0) rfl))
  have N28 := Fr.snoc X24 N20 g_a1
  have Fw24 := f22.same W24
  have J29 : ∀ t, Steps p.tables e below (T24.setTop (mkF m 25 #[.val (.ref a1), .val (.ref bi), .val (.int (2 : Int32))] [(.int (2 : Int32)), (.ref a1)])) t → Steps p.tables e below (s₁.setTop (entryFrame m #[(.ref a1), (.ref bi), (.int (2 : Int32))] 3)) t := fun t k => J25 t (by
      show Steps p.tables e below (T24.setTop (mkF m 23 #[.val (.ref a1), .val (.ref bi), .val (.int (2 : Int32))] [])) _
      refine XS.aloadN X24.here hx rfl (hb hby d27_23) rfl rfl ?_
      show Steps p.tables e below (T24.setTop (mkF m 24 #[.val (.ref a1), .val (.ref bi), .val (.int (2 : Int32))] [(.ref a1)])) _
      refine XS.iloadN X24.here hx rfl (hb hby d27_24) rfl ?_
      exact k)
  have f30 := F_scale_a1.other W9 (Or.inr (slot_ne (Or.inr (hw _ (List.mem_of_getElem? (i := 122) rfl))) (Or.inr (hw _ (List.mem_of_getElem? (i := 128) rfl))) (by decide) (t := .int) (t' := (.object "java/math/BigInteger")) (by decide) (by decide)))
  have f31 := f30.other W24 (Or.inr (slot_ne (Or.inr (hw _ (List.mem_of_getElem? (i := 122) rfl))) (Or.inr (hw _ (List.mem_of_getElem? (i := 126) rfl))) (by decide) (t := .int) (t' := .long) (by decide) (by decide)))
  have f32 := f23.wr W24
  obtain ⟨T33, h33, X33, e33, W33, st33⟩ := putF X24 hx hZ hown (host := "") (Or.inl (hw _ (List.mem_of_getElem? (i := 121) rfl))) Via.refl e24 f31 f32 (Or.inr ⟨(hw _ (List.mem_of_getElem? (i := 122) rfl)), rfl, hnm⟩) (hw _ (List.mem_of_getElem? (i := 108) rfl)) (ty := .int) (by decide) rfl rfl (g := (mkF m 25 #[.val (.ref a1), .val (.ref bi), .val (.int (2 : Int32))] [(.int (2 : Int32)), (.ref a1)])) rfl rfl (hb hby d27_25)
  have J34 : ∀ t, Steps p.tables e below (T33.setTop (mkF m 28 #[.val (.ref a1), .val (.ref bi), .val (.int (2 : Int32))] [])) t → Steps p.tables e below (s₁.setTop (entryFrame m #[(.ref a1), (.ref bi), (.int (2 : Int32))] 3)) t := fun t k => J29 t (st33 t k)
  have Z35 : n0 ≤ h33.size := Nat.le_trans Z26 (Keep.of_wr W33).1
  have KK36 : Keep h0 h33 [a1] := KK27.wr W33 (Or.inl (List.mem_of_getElem? (i := 0) rfl))
  have N37 := Fr.snoc X33 N28 g_a1
  have Fw33 := f31.same W33
  obtain ⟨fs, hr, hrun, hended, hW, hsame⟩ := X33.leave (v := none) (fun _ => rfl)
  have f38 := f32.wr W33
  have f39 := Fw9.other W24 (Or.inr (slot_ne (Or.inr (hw _ (List.mem_of_getElem? (i := 128) rfl))) (Or.inr (hw _ (List.mem_of_getElem? (i := 126) rfl))) (by decide) (t := (.object "java/math/BigInteger")) (t' := .long) (by decide) (by decide)))
  have f40 := f39.other W33 (Or.inr (slot_ne (Or.inr (hw _ (List.mem_of_getElem? (i := 128) rfl))) (Or.inr (hw _ (List.mem_of_getElem? (i := 122) rfl))) (by decide) (t := (.object "java/math/BigInteger")) (t' := .int) (by decide) (by decide)))
  have f41 := Fw24.other W33 (Or.inr (slot_ne (Or.inr (hw _ (List.mem_of_getElem? (i := 126) rfl))) (Or.inr (hw _ (List.mem_of_getElem? (i := 122) rfl))) (by decide) (t := .long) (t' := .int) (by decide) (by decide)))
  refine ⟨_, _, J34 _ ?_, hrun, hended, _, _, rfl, ?_, ⟨_, rfl⟩, hW, hsame.mono (by decide) (by decide)⟩
  · show Steps p.tables e below (T33.setTop (mkF m 28 #[.val (.ref a1), .val (.ref bi), .val (.int (2 : Int32))] [])) _
    exact X33.returnOut hx Bd.returns (hb hby d27_28) hr
  · show Q27 Z a1 bi mg mcl u1 u2 u3 u4 h0 n0 _ T33.heap _
    rw [e33]
    exact ⟨rfl, N37, KK36, f38, f40, f41, Fw33⟩
theorem d19_0 : decode jdk_17_method_132_code 0 = .ok (.lload_n 0, 1) := by decide +kernel
theorem d19_1 : decode jdk_17_method_132_code 1 = .ok (.lload_n 2, 1) := by decide +kernel
theorem d19_2 : decode jdk_17_method_132_code 2 = .ok (.ladd, 1) := by decide +kernel
theorem d19_3 : decode jdk_17_method_132_code 3 = .ok (.lstore 4, 2) := by decide +kernel
theorem d19_5 : decode jdk_17_method_132_code 5 = .ok (.lload 4, 2) := by decide +kernel
theorem d19_7 : decode jdk_17_method_132_code 7 = .ok (.lload_n 0, 1) := by decide +kernel
theorem d19_8 : decode jdk_17_method_132_code 8 = .ok (.lxor, 1) := by decide +kernel
theorem d19_9 : decode jdk_17_method_132_code 9 = .ok (.lload 4, 2) := by decide +kernel
theorem d19_11 : decode jdk_17_method_132_code 11 = .ok (.lload_n 2, 1) := by decide +kernel
theorem d19_12 : decode jdk_17_method_132_code 12 = .ok (.lxor, 1) := by decide +kernel
theorem d19_13 : decode jdk_17_method_132_code 13 = .ok (.land, 1) := by decide +kernel
theorem d19_14 : decode jdk_17_method_132_code 14 = .ok (.lconst 0, 1) := by decide +kernel
theorem d19_15 : decode jdk_17_method_132_code 15 = .ok (.lcmp, 1) := by decide +kernel
theorem d19_16 : decode jdk_17_method_132_code 16 = .ok (.ifCond .lt 6, 3) := by decide +kernel
theorem d19_22 : decode jdk_17_method_132_code 22 = .ok (.ldc2_w 125, 3) := by decide +kernel
theorem d19_25 : decode jdk_17_method_132_code 25 = .ok (.lreturn, 1) := by decide +kernel
theorem pn_19 : plainName "java/math/BigDecimal" = true := by first | (simp [plainName, overriddenIn]; done) | decide +kernel
theorem ef_19_xx (m : MethodId) (x0 : Int64) (x1 : Int64) : entryFrame m #[(.long x0), (.long x1)] 6 = mkF m 0 #[.val (.long x0), .second, .val (.long x1), .second, .unset, .unset] [] := by first | (simp [entryFrame, mkF, argsToLocals, Value.category]; done) | rfl
def Q19 (Z : State)  (h0 : Heap) (n0 : Nat) (v : Option Value) (h : Heap) (L : List Loc) : Prop := v = some (.long (-9223372036854775808 : Int64)) ∧ Fr n0 L ∧ h = h0
set_option maxRecDepth 65536 in
set_option maxHeartbeats 40000000 in
theorem rm19 (l : Launch) (Z : State) (a0 : Array Value) (hw : ∀ d ∈ tables_1, d.before a0 Z = true) (ws : List Jvm.Cond)  (h0 : Heap) (n0 : Nat) (Z0 : n0 ≤ h0.size) :
    MetFree l (⟨"java/math/BigDecimal", "add", "(JJ)J"⟩ : MethodName) (head1 (Jvm.Cond.code (⟨"java/math/BigDecimal", "add", "(JJ)J"⟩ : MethodName) jdk_17_method_132_code 6 (some .long) :: ws) ({ frames := 0, cells := 0, slots := 0, locals := 0 } : Room)) (fun a U => a = #[(.long (9223372036854775807 : Int64)), (.long (1 : Int64))] ∧ Z.Warmed39 U.vm ∧ U.heap = h0) (fun _ _ _ _ _ => True) (fun _ U o U' => ∃ v L, o = .returned v ∧ Q19 Z  h0 n0 v U'.heap L ∧ FrameEnd U o U' L ({ frames := 0, cells := 0, slots := 0, locals := 0 } : Room).cells ({ frames := 0, cells := 0, slots := 0, locals := 0 } : Room).slots) := by
  refine MetFree.of_bodySF (plainFor_of_name pn_19) hisR ?_
  intro p e s m args below meth c s₁ Bd hml0 hP hK
  obtain ⟨rfl, hZ, hh⟩ := hP
  have hx := Bd.exec
  have hby := Bd.bytes
  have hml : c.maxLocals = 6 := hml0
  have hown : s.vm.findClass "java/math/BigDecimal" = some m.cls := findClass_of_methodNamed Bd.named
  have hnm := (name_of_methodNamed Bd.named Bd.method).1
  have X0 : Stand p l e ({ frames := 0, cells := 0, slots := 0, locals := 0 } : Room) s m #[(.long (9223372036854775807 : Int64)), (.long (1 : Int64))] below meth c s₁ [] 0 0 := Stand.of_body Bd
  have e0 : s₁.heap = h0 := by rw [← hh, Bd.state]; rfl
  have N0 := Fr.nil n0
  have pre0 : ∀ t, Steps p.tables e below (s₁.setTop (mkF m 0 #[.val (.long (9223372036854775807 : Int64)), .second, .val (.long (1 : Int64)), .second, .unset, .unset] [])) t → Steps p.tables e below (s₁.setTop (entryFrame m #[(.long (9223372036854775807 : Int64)), (.long (1 : Int64))] 6)) t := fun t k => castTop (ef_19_xx m (9223372036854775807 : Int64) (1 : Int64)) k
  have J1 : ∀ t, Steps p.tables e below (s₁.setTop (mkF m 25 #[.val (.long (9223372036854775807 : Int64)), .second, .val (.long (1 : Int64)), .second, .val (.long ((9223372036854775807 : Int64) + (1 : Int64))), .second] [(.long (-9223372036854775808 : Int64))])) t → Steps p.tables e below (s₁.setTop (entryFrame m #[(.long (9223372036854775807 : Int64)), (.long (1 : Int64))] 6)) t := fun t k => pre0 t (by
      show Steps p.tables e below (s₁.setTop (mkF m 0 #[.val (.long (9223372036854775807 : Int64)), .second, .val (.long (1 : Int64)), .second, .unset, .unset] [])) _
      refine XS.lloadN X0.here hx rfl (hb hby d19_0) rfl ?_
      show Steps p.tables e below (s₁.setTop (mkF m 1 #[.val (.long (9223372036854775807 : Int64)), .second, .val (.long (1 : Int64)), .second, .unset, .unset] [(.long (9223372036854775807 : Int64))])) _
      refine XS.lloadN X0.here hx rfl (hb hby d19_1) rfl ?_
      show Steps p.tables e below (s₁.setTop (mkF m 2 #[.val (.long (9223372036854775807 : Int64)), .second, .val (.long (1 : Int64)), .second, .unset, .unset] [(.long (1 : Int64)), (.long (9223372036854775807 : Int64))])) _
      refine XS.ladd X0.here hx rfl (hb hby d19_2) rfl ?_
      show Steps p.tables e below (s₁.setTop (mkF m 3 #[.val (.long (9223372036854775807 : Int64)), .second, .val (.long (1 : Int64)), .second, .unset, .unset] [(.long ((9223372036854775807 : Int64) + (1 : Int64)))])) _
      refine XS.lstore X0.here hx rfl (hb hby d19_3) rfl (l' := #[.val (.long (9223372036854775807 : Int64)), .second, .val (.long (1 : Int64)), .second, .val (.long ((9223372036854775807 : Int64) + (1 : Int64))), .second]) rfl ?_
      show Steps p.tables e below (s₁.setTop (mkF m 5 #[.val (.long (9223372036854775807 : Int64)), .second, .val (.long (1 : Int64)), .second, .val (.long ((9223372036854775807 : Int64) + (1 : Int64))), .second] [])) _
      refine XS.lload X0.here hx rfl (hb hby d19_5) rfl ?_
      show Steps p.tables e below (s₁.setTop (mkF m 7 #[.val (.long (9223372036854775807 : Int64)), .second, .val (.long (1 : Int64)), .second, .val (.long ((9223372036854775807 : Int64) + (1 : Int64))), .second] [(.long ((9223372036854775807 : Int64) + (1 : Int64)))])) _
      refine XS.lloadN X0.here hx rfl (hb hby d19_7) rfl ?_
      show Steps p.tables e below (s₁.setTop (mkF m 8 #[.val (.long (9223372036854775807 : Int64)), .second, .val (.long (1 : Int64)), .second, .val (.long ((9223372036854775807 : Int64) + (1 : Int64))), .second] [(.long (9223372036854775807 : Int64)), (.long ((9223372036854775807 : Int64) + (1 : Int64)))])) _
      refine XS.lxor X0.here hx rfl (hb hby d19_8) rfl ?_
      show Steps p.tables e below (s₁.setTop (mkF m 9 #[.val (.long (9223372036854775807 : Int64)), .second, .val (.long (1 : Int64)), .second, .val (.long ((9223372036854775807 : Int64) + (1 : Int64))), .second] [(.long (((9223372036854775807 : Int64) + (1 : Int64)) ^^^ (9223372036854775807 : Int64)))])) _
      refine XS.lload X0.here hx rfl (hb hby d19_9) rfl ?_
      show Steps p.tables e below (s₁.setTop (mkF m 11 #[.val (.long (9223372036854775807 : Int64)), .second, .val (.long (1 : Int64)), .second, .val (.long ((9223372036854775807 : Int64) + (1 : Int64))), .second] [(.long ((9223372036854775807 : Int64) + (1 : Int64))), (.long (((9223372036854775807 : Int64) + (1 : Int64)) ^^^ (9223372036854775807 : Int64)))])) _
      refine XS.lloadN X0.here hx rfl (hb hby d19_11) rfl ?_
      show Steps p.tables e below (s₁.setTop (mkF m 12 #[.val (.long (9223372036854775807 : Int64)), .second, .val (.long (1 : Int64)), .second, .val (.long ((9223372036854775807 : Int64) + (1 : Int64))), .second] [(.long (1 : Int64)), (.long ((9223372036854775807 : Int64) + (1 : Int64))), (.long (((9223372036854775807 : Int64) + (1 : Int64)) ^^^ (9223372036854775807 : Int64)))])) _
      refine XS.lxor X0.here hx rfl (hb hby d19_12) rfl ?_
      show Steps p.tables e below (s₁.setTop (mkF m 13 #[.val (.long (9223372036854775807 : Int64)), .second, .val (.long (1 : Int64)), .second, .val (.long ((9223372036854775807 : Int64) + (1 : Int64))), .second] [(.long (((9223372036854775807 : Int64) + (1 : Int64)) ^^^ (1 : Int64))), (.long (((9223372036854775807 : Int64) + (1 : Int64)) ^^^ (9223372036854775807 : Int64)))])) _
      refine XS.land X0.here hx rfl (hb hby d19_13) rfl ?_
      show Steps p.tables e below (s₁.setTop (mkF m 14 #[.val (.long (9223372036854775807 : Int64)), .second, .val (.long (1 : Int64)), .second, .val (.long ((9223372036854775807 : Int64) + (1 : Int64))), .second] [(.long ((((9223372036854775807 : Int64) + (1 : Int64)) ^^^ (9223372036854775807 : Int64)) &&& (((9223372036854775807 : Int64) + (1 : Int64)) ^^^ (1 : Int64))))])) _
      refine XS.lconst X0.here hx rfl (hb hby d19_14) ?_
      show Steps p.tables e below (s₁.setTop (mkF m 15 #[.val (.long (9223372036854775807 : Int64)), .second, .val (.long (1 : Int64)), .second, .val (.long ((9223372036854775807 : Int64) + (1 : Int64))), .second] [(.long (0 : Int64)), (.long ((((9223372036854775807 : Int64) + (1 : Int64)) ^^^ (9223372036854775807 : Int64)) &&& (((9223372036854775807 : Int64) + (1 : Int64)) ^^^ (1 : Int64))))])) _
      refine XS.lcmp X0.here hx rfl (hb hby d19_15) rfl ?_
      show Steps p.tables e below (s₁.setTop (mkF m 16 #[.val (.long (9223372036854775807 : Int64)), .second, .val (.long (1 : Int64)), .second, .val (.long ((9223372036854775807 : Int64) + (1 : Int64))), .second] [(.int (lcmpW ((((9223372036854775807 : Int64) + (1 : Int64)) ^^^ (9223372036854775807 : Int64)) &&& (((9223372036854775807 : Int64) + (1 : Int64)) ^^^ (1 : Int64))) (0 : Int64)))])) _
      refine XS.ifYes X0.here hx rfl (pc0 := 16) (pc' := 22) rfl (hb hby d19_16) rfl ((if0 _ _).trans (tlt (by decide)).1) (by decide) (by decide) ?_
      show Steps p.tables e below (s₁.setTop (mkF m 22 #[.val (.long (9223372036854775807 : Int64)), .second, .val (.long (1 : Int64)), .second, .val (.long ((9223372036854775807 : Int64) + (1 : Int64))), .second] [])) _
      refine X0.ldc2Long hx hown (mvT hZ (hw _ (List.mem_of_getElem? (i := 109) rfl))) (g := (mkF m 22 #[.val (.long (9223372036854775807 : Int64)), .second, .val (.long (1 : Int64)), .second, .val (.long ((9223372036854775807 : Int64) + (1 : Int64))), .second] [])) rfl (hb hby d19_22) _ ?_
      exact k)
  obtain ⟨fs, hr, hrun, hended, hW, hsame⟩ := X0.leave (v := some (.long (-9223372036854775808 : Int64))) (fun h => by rw [Bd.returns] at h; cases h)
  refine ⟨_, _, J1 _ ?_, hrun, hended, _, _, rfl, ?_, ⟨_, rfl⟩, hW, hsame.mono (by decide) (by decide)⟩
  · show Steps p.tables e below (s₁.setTop (mkF m 25 #[.val (.long (9223372036854775807 : Int64)), .second, .val (.long (1 : Int64)), .second, .val (.long ((9223372036854775807 : Int64) + (1 : Int64))), .second] [(.long (-9223372036854775808 : Int64))])) _
    exact retJ X0 hx Bd.returns (hb hby d19_25) hr
  · show Q19 Z  h0 n0 _ s₁.heap _
    rw [e0]
    exact ⟨rfl, N0, rfl⟩
theorem d18_0 : decode jdk_17_method_133_code 0 = .ok (.lload_n 0, 1) := by decide +kernel
theorem d18_1 : decode jdk_17_method_133_code 1 = .ok (.lload_n 2, 1) := by decide +kernel
theorem d18_2 : decode jdk_17_method_133_code 2 = .ok (.invokestatic 996, 3) := by decide +kernel
theorem pd_11 : parseMethodDescriptor "(JJ)J" = some ⟨[.long, .long], some .long⟩ := by decide +kernel
theorem d18_5 : decode jdk_17_method_133_code 5 = .ok (.lstore 5, 2) := by decide +kernel
theorem d18_7 : decode jdk_17_method_133_code 7 = .ok (.lload 5, 2) := by decide +kernel
theorem d18_9 : decode jdk_17_method_133_code 9 = .ok (.ldc2_w 125, 3) := by decide +kernel
theorem d18_12 : decode jdk_17_method_133_code 12 = .ok (.lcmp, 1) := by decide +kernel
theorem d18_13 : decode jdk_17_method_133_code 13 = .ok (.ifCond .eq 11, 3) := by decide +kernel
theorem d18_24 : decode jdk_17_method_133_code 24 = .ok (.new 3, 3) := by decide +kernel
theorem d18_27 : decode jdk_17_method_133_code 27 = .ok (.dup, 1) := by decide +kernel
theorem d18_28 : decode jdk_17_method_133_code 28 = .ok (.lload_n 0, 1) := by decide +kernel
theorem d18_29 : decode jdk_17_method_133_code 29 = .ok (.invokestatic 193, 3) := by decide +kernel
theorem pd_12 : parseMethodDescriptor "(J)Ljava/math/BigInteger;" = some ⟨[.long], some (.object "java/math/BigInteger")⟩ := by decide +kernel
theorem d18_32 : decode jdk_17_method_133_code 32 = .ok (.lload_n 2, 1) := by decide +kernel
theorem d18_33 : decode jdk_17_method_133_code 33 = .ok (.invokevirtual 998, 3) := by decide +kernel
theorem d18_36 : decode jdk_17_method_133_code 36 = .ok (.iload 4, 2) := by decide +kernel
theorem d18_38 : decode jdk_17_method_133_code 38 = .ok (.invokespecial 577, 3) := by decide +kernel
theorem pd_13 : parseMethodDescriptor "(Ljava/math/BigInteger;I)V" = some ⟨[(.object "java/math/BigInteger"), .int], none⟩ := by decide +kernel
theorem d18_41 : decode jdk_17_method_133_code 41 = .ok (.areturn, 1) := by decide +kernel
theorem pn_18 : plainName "java/math/BigDecimal" = true := by first | (simp [plainName, overriddenIn]; done) | decide +kernel
theorem ef_18_xxx (m : MethodId) (x0 : Int64) (x1 : Int64) (x2 : Int32) : entryFrame m #[(.long x0), (.long x1), (.int x2)] 7 = mkF m 0 #[.val (.long x0), .second, .val (.long x1), .second, .val (.int x2), .unset, .unset] [] := by first | (simp [entryFrame, mkF, argsToLocals, Value.category]; done) | rfl
def Q18 (Z : State)  (h0 : Heap) (n0 : Nat) (v : Option Value) (h : Heap) (L : List Loc) : Prop := ∃ (bd : Addr) (bi : Addr) (mg : Addr) (mcl : Cell), v = some (.ref bd) ∧ Fr n0 L ∧ Keep h0 h [] ∧ (Exa Z h bd "java/math/BigDecimal") ∧ (Fld Z h bd "java/math/BigDecimal" "intVal" "Ljava/math/BigInteger;" (.ref bi)) ∧ (Fld Z h bd "java/math/BigDecimal" "intCompact" "J" (.long (-9223372036854775808 : Int64))) ∧ (Fld Z h bd "java/math/BigDecimal" "scale" "I" (.int (2 : Int32))) ∧ (Exa Z h bi "java/math/BigInteger") ∧ (Fld Z h bi "java/math/BigInteger" "signum" "I" (.int (1 : Int32))) ∧ (Fld Z h bi "java/math/BigInteger" "mag" "[I" (.ref mg)) ∧ (Fld Z h bi "java/math/BigInteger" "bitLengthPlusOne" "I" (.int (0 : Int32))) ∧ (Arr Z h mg mcl .int) ∧ (mcl.slots.size = 2) ∧ (mcl.slots[0]? = some (.int (-2147483648 : Int32))) ∧ (mcl.slots[1]? = some (.int (0 : Int32))) ∧ (h0.size ≤ bd) ∧ (h0.size ≤ bi) ∧ (h0.size ≤ mg) ∧ (bd ≠ bi) ∧ (bd ≠ mg) ∧ (bi ≠ mg) ∧ (n0 ≤ bi)
set_option maxRecDepth 65536 in
set_option maxHeartbeats 40000000 in
theorem rm18 (l : Launch) (Z : State) (a0 : Array Value) (hw : ∀ d ∈ tables_1, d.before a0 Z = true) (ws : List Jvm.Cond)  (h0 : Heap) (n0 : Nat) (Z0 : n0 ≤ h0.size) (hM : MirrorMade Z "java/math/BigInteger") :
    MetFree l (⟨"java/math/BigDecimal", "add", "(JJI)Ljava/math/BigDecimal;"⟩ : MethodName) (head1 (Jvm.Cond.code (⟨"java/math/BigDecimal", "add", "(JJI)Ljava/math/BigDecimal;"⟩ : MethodName) jdk_17_method_133_code 7 (some (.object "java/math/BigDecimal")) :: ws) ({ frames := 4, cells := 5, slots := 21, locals := 57 } : Room)) (fun a U => a = #[(.long (9223372036854775807 : Int64)), (.long (1 : Int64)), (.int (2 : Int32))] ∧ Z.Warmed39 U.vm ∧ U.heap = h0) (fun _ _ _ _ _ => True) (fun _ U o U' => ∃ v L, o = .returned v ∧ Q18 Z  h0 n0 v U'.heap L ∧ FrameEnd U o U' L ({ frames := 4, cells := 5, slots := 21, locals := 57 } : Room).cells ({ frames := 4, cells := 5, slots := 21, locals := 57 } : Room).slots) := by
  refine MetFree.of_bodySF (plainFor_of_name pn_18) hisR ?_
  intro p e s m args below meth c s₁ Bd hml0 hP hK
  obtain ⟨rfl, hZ, hh⟩ := hP
  have hx := Bd.exec
  have hby := Bd.bytes
  have hml : c.maxLocals = 7 := hml0
  have hown : s.vm.findClass "java/math/BigDecimal" = some m.cls := findClass_of_methodNamed Bd.named
  have hnm := (name_of_methodNamed Bd.named Bd.method).1
  have X0 : Stand p l e ({ frames := 4, cells := 5, slots := 21, locals := 57 } : Room) s m #[(.long (9223372036854775807 : Int64)), (.long (1 : Int64)), (.int (2 : Int32))] below meth c s₁ [] 0 0 := Stand.of_body Bd
  have e0 : s₁.heap = h0 := by rw [← hh, Bd.state]; rfl
  have N0 := Fr.nil n0
  have pre0 : ∀ t, Steps p.tables e below (s₁.setTop (mkF m 0 #[.val (.long (9223372036854775807 : Int64)), .second, .val (.long (1 : Int64)), .second, .val (.int (2 : Int32)), .unset, .unset] [])) t → Steps p.tables e below (s₁.setTop (entryFrame m #[(.long (9223372036854775807 : Int64)), (.long (1 : Int64)), (.int (2 : Int32))] 7)) t := fun t k => castTop (ef_18_xxx m (9223372036854775807 : Int64) (1 : Int64) (2 : Int32)) k
  have J1 : ∀ t, Steps p.tables e below (s₁.setTop (mkF m 2 #[.val (.long (9223372036854775807 : Int64)), .second, .val (.long (1 : Int64)), .second, .val (.int (2 : Int32)), .unset, .unset] [(.long (1 : Int64)), (.long (9223372036854775807 : Int64))])) t → Steps p.tables e below (s₁.setTop (entryFrame m #[(.long (9223372036854775807 : Int64)), (.long (1 : Int64)), (.int (2 : Int32))] 7)) t := fun t k => pre0 t (by
      show Steps p.tables e below (s₁.setTop (mkF m 0 #[.val (.long (9223372036854775807 : Int64)), .second, .val (.long (1 : Int64)), .second, .val (.int (2 : Int32)), .unset, .unset] [])) _
      refine XS.lloadN X0.here hx rfl (hb hby d18_0) rfl ?_
      show Steps p.tables e below (s₁.setTop (mkF m 1 #[.val (.long (9223372036854775807 : Int64)), .second, .val (.long (1 : Int64)), .second, .val (.int (2 : Int32)), .unset, .unset] [(.long (9223372036854775807 : Int64))])) _
      refine XS.lloadN X0.here hx rfl (hb hby d18_1) rfl ?_
      exact k)
  obtain ⟨_, _, ⟨T2, L2, k2, n2⟩, -, X2, ⟨Lc2, hQ2, l2, y2, z2⟩, st2⟩ := Jvm.LawKit.callS X0 hx (y := (⟨"java/math/BigDecimal", "add", "(JJ)J"⟩ : MethodName)) hown (mvT hZ (hw _ (List.mem_of_getElem? (i := 140) rfl))) (mvT hZ (hw _ (List.mem_of_getElem? (i := 141) rfl))) (mvT hZ (hw _ (List.mem_of_getElem? (i := 105) rfl))) (mvT hZ (hw _ (List.mem_of_getElem? (i := 142) rfl))) (by decide) (backOf (W := 0) (rm19 l Z a0 hw []  h0 n0 Z0 ) hZ (hw _ (List.mem_of_getElem? (i := 142) rfl)) (hw _ (List.mem_of_getElem? (i := 105) rfl)) (by decide) (by decide)) (g := (mkF m 2 #[.val (.long (9223372036854775807 : Int64)), .second, .val (.long (1 : Int64)), .second, .val (.int (2 : Int32)), .unset, .unset] [(.long (1 : Int64)), (.long (9223372036854775807 : Int64))])) rfl (by rw [hml]; rfl) (argsL := [(.long (9223372036854775807 : Int64)), (.long (1 : Int64))]) (rest := []) (lenOf pd_11 rfl) rfl (by show 2 * 0 + _ ≤ _; exact Nat.le_of_eq rfl) (hb hby d18_2) (fun _ _ => ⟨rfl, e0, (by decide : 0 + 0 ≤ _), (by decide : 0 + 0 ≤ _)⟩)
  dsimp only [Pt.U, Pt.locs, Pt.cells, Pt.slots] at X2 l2 y2 z2 st2 hQ2
  subst y2 z2
  obtain ⟨rfl, Nq2, e2⟩ := hQ2
  have N3 : Fr n0 L2 := by rw [l2]; exact Fr.app N0 Nq2
  have J4 : ∀ t, Steps p.tables e below (T2.setTop (mkF m 5 #[.val (.long (9223372036854775807 : Int64)), .second, .val (.long (1 : Int64)), .second, .val (.int (2 : Int32)), .unset, .unset] [(.long (-9223372036854775808 : Int64))])) t → Steps p.tables e below (s₁.setTop (entryFrame m #[(.long (9223372036854775807 : Int64)), (.long (1 : Int64)), (.int (2 : Int32))] 7)) t := fun t k => J1 t (st2 t k)
  have J5 : ∀ t, Steps p.tables e below (T2.setTop (mkF m 24 #[.val (.long (9223372036854775807 : Int64)), .second, .val (.long (1 : Int64)), .second, .val (.int (2 : Int32)), .val (.long (-9223372036854775808 : Int64)), .second] [])) t → Steps p.tables e below (s₁.setTop (entryFrame m #[(.long (9223372036854775807 : Int64)), (.long (1 : Int64)), (.int (2 : Int32))] 7)) t := fun t k => J4 t (by
      show Steps p.tables e below (T2.setTop (mkF m 5 #[.val (.long (9223372036854775807 : Int64)), .second, .val (.long (1 : Int64)), .second, .val (.int (2 : Int32)), .unset, .unset] [(.long (-9223372036854775808 : Int64))])) _
      refine XS.lstore X2.here hx rfl (hb hby d18_5) rfl (l' := #[.val (.long (9223372036854775807 : Int64)), .second, .val (.long (1 : Int64)), .second, .val (.int (2 : Int32)), .val (.long (-9223372036854775808 : Int64)), .second]) rfl ?_
      show Steps p.tables e below (T2.setTop (mkF m 7 #[.val (.long (9223372036854775807 : Int64)), .second, .val (.long (1 : Int64)), .second, .val (.int (2 : Int32)), .val (.long (-9223372036854775808 : Int64)), .second] [])) _
      refine XS.lload X2.here hx rfl (hb hby d18_7) rfl ?_
      show Steps p.tables e below (T2.setTop (mkF m 9 #[.val (.long (9223372036854775807 : Int64)), .second, .val (.long (1 : Int64)), .second, .val (.int (2 : Int32)), .val (.long (-9223372036854775808 : Int64)), .second] [(.long (-9223372036854775808 : Int64))])) _
      refine X2.ldc2Long hx hown (mvT hZ (hw _ (List.mem_of_getElem? (i := 109) rfl))) (g := (mkF m 9 #[.val (.long (9223372036854775807 : Int64)), .second, .val (.long (1 : Int64)), .second, .val (.int (2 : Int32)), .val (.long (-9223372036854775808 : Int64)), .second] [(.long (-9223372036854775808 : Int64))])) rfl (hb hby d18_9) _ ?_
      show Steps p.tables e below (T2.setTop (mkF m 12 #[.val (.long (9223372036854775807 : Int64)), .second, .val (.long (1 : Int64)), .second, .val (.int (2 : Int32)), .val (.long (-9223372036854775808 : Int64)), .second] [(.long (-9223372036854775808 : Int64)), (.long (-9223372036854775808 : Int64))])) _
      refine XS.lcmp X2.here hx rfl (hb hby d18_12) rfl ?_
      show Steps p.tables e below (T2.setTop (mkF m 13 #[.val (.long (9223372036854775807 : Int64)), .second, .val (.long (1 : Int64)), .second, .val (.int (2 : Int32)), .val (.long (-9223372036854775808 : Int64)), .second] [(.int (lcmpW (-9223372036854775808 : Int64) (-9223372036854775808 : Int64)))])) _
      refine XS.ifYes X2.here hx rfl (pc0 := 13) (pc' := 24) rfl (hb hby d18_13) rfl ((if0 _ _).trans (teq (by decide)).1) (by decide) (by decide) ?_
      exact k)
  obtain ⟨T6, h6, X6, e6, E6, A6, D6, U6, st6⟩ := newO X2 hx hZ hown (hw _ (List.mem_of_getElem? (i := 107) rfl)) (hw _ (List.mem_of_getElem? (i := 108) rfl)) (hw _ (List.mem_of_getElem? (i := 105) rfl)) e2 (g := (mkF m 24 #[.val (.long (9223372036854775807 : Int64)), .second, .val (.long (1 : Int64)), .second, .val (.int (2 : Int32)), .val (.long (-9223372036854775808 : Int64)), .second] [])) rfl (hb hby d18_24) (by decide) (by decide)
  obtain ⟨b6, g6⟩ : ∃ z, z = h0.size := ⟨_, rfl⟩
  rw [← g6] at A6 D6 U6 st6
  have J7 : ∀ t, Steps p.tables e below (T6.setTop (mkF m 27 #[.val (.long (9223372036854775807 : Int64)), .second, .val (.long (1 : Int64)), .second, .val (.int (2 : Int32)), .val (.long (-9223372036854775808 : Int64)), .second] [(.ref b6)])) t → Steps p.tables e below (s₁.setTop (entryFrame m #[(.long (9223372036854775807 : Int64)), (.long (1 : Int64)), (.int (2 : Int32))] 7)) t := fun t k => J5 t (st6 t k)
  have ge8 : n0 ≤ b6 := Nat.le_trans Z0 (Nat.le_of_eq g6.symm)
  have sz9 : h0.size ≤ b6 := Nat.le_trans (Keep.refl h0 []).1 (Nat.le_of_eq g6.symm)
  have Z10 : n0 ≤ h6.size := Nat.le_trans Z0 E6.1
  have KK11 : Keep h0 h6 [] := (Keep.refl h0 []).ext E6
  have F6_scale : Fld Z h6 b6 "java/math/BigDecimal" "scale" "I" (.int (0 : Int32)) := D6 (Or.inr (hw _ (List.mem_of_getElem? (i := 122) rfl))) (ty := .int) (by decide)
  have F6_precision : Fld Z h6 b6 "java/math/BigDecimal" "precision" "I" (.int (0 : Int32)) := D6 (Or.inl (hw _ (List.mem_of_getElem? (i := 124) rfl))) (ty := .int) (by decide)
  have F6_intCompact : Fld Z h6 b6 "java/math/BigDecimal" "intCompact" "J" (.long (0 : Int64)) := D6 (Or.inr (hw _ (List.mem_of_getElem? (i := 126) rfl))) (ty := .long) (by decide)
  have F6_intVal : Fld Z h6 b6 "java/math/BigDecimal" "intVal" "Ljava/math/BigInteger;" .null := D6 (Or.inr (hw _ (List.mem_of_getElem? (i := 128) rfl))) (ty := (.object "java/math/BigInteger")) (by decide)
  have J12 : ∀ t, Steps p.tables e below (T6.setTop (mkF m 29 #[.val (.long (9223372036854775807 : Int64)), .second, .val (.long (1 : Int64)), .second, .val (.int (2 : Int32)), .val (.long (-9223372036854775808 : Int64)), .second] [(.long (9223372036854775807 : Int64)), (.ref b6), (.ref b6)])) t → Steps p.tables e below (s₁.setTop (entryFrame m #[(.long (9223372036854775807 : Int64)), (.long (1 : Int64)), (.int (2 : Int32))] 7)) t := fun t k => J7 t (by
      show Steps p.tables e below (T6.setTop (mkF m 27 #[.val (.long (9223372036854775807 : Int64)), .second, .val (.long (1 : Int64)), .second, .val (.int (2 : Int32)), .val (.long (-9223372036854775808 : Int64)), .second] [(.ref b6)])) _
      refine XS.dup X6.here hx rfl (hb hby d18_27) rfl rfl ?_
      show Steps p.tables e below (T6.setTop (mkF m 28 #[.val (.long (9223372036854775807 : Int64)), .second, .val (.long (1 : Int64)), .second, .val (.int (2 : Int32)), .val (.long (-9223372036854775808 : Int64)), .second] [(.ref b6), (.ref b6)])) _
      refine XS.lloadN X6.here hx rfl (hb hby d18_28) rfl ?_
      exact k)
  obtain ⟨_, _, ⟨T13, L13, k13, n13⟩, -, X13, ⟨Lc13, hQ13, l13, y13, z13⟩, st13⟩ := Jvm.LawKit.callS X6 hx (y := (⟨"java/math/BigInteger", "valueOf", "(J)Ljava/math/BigInteger;"⟩ : MethodName)) hown (mvT hZ (hw _ (List.mem_of_getElem? (i := 143) rfl))) (mvT hZ (hw _ (List.mem_of_getElem? (i := 144) rfl))) (mvT hZ (hw _ (List.mem_of_getElem? (i := 145) rfl))) (mvT hZ (hw _ (List.mem_of_getElem? (i := 146) rfl))) (by decide) (backOf (W := 2) (rm20 l Z a0 hw []  h6 n0 Z10 ) hZ (hw _ (List.mem_of_getElem? (i := 146) rfl)) (hw _ (List.mem_of_getElem? (i := 145) rfl)) (by decide) (by decide)) (g := (mkF m 29 #[.val (.long (9223372036854775807 : Int64)), .second, .val (.long (1 : Int64)), .second, .val (.int (2 : Int32)), .val (.long (-9223372036854775808 : Int64)), .second] [(.long (9223372036854775807 : Int64)), (.ref b6), (.ref b6)])) rfl (by rw [hml]; rfl) (argsL := [(.long (9223372036854775807 : Int64))]) (rest := [(.ref b6), (.ref b6)]) (lenOf pd_12 rfl) rfl (by show 2 * 0 + _ ≤ _; exact Nat.le_of_eq rfl) (hb hby d18_29) (fun _ _ => ⟨rfl, e6, (by decide : 1 + 2 ≤ _), (by decide : 5 + 8 ≤ _)⟩)
  dsimp only [Pt.U, Pt.locs, Pt.cells, Pt.slots] at X13 l13 y13 z13 st13 hQ13
  subst y13 z13
  obtain ⟨bi_13, mg_13, mcl_13, rfl, Nq13, K13, p13_1, p13_2, p13_3, p13_4, p13_5, p13_6, p13_7, p13_8, p13_9⟩ := hQ13
  have N14 : Fr n0 L13 := by rw [l13]; exact Fr.app N3 Nq13
  have J15 : ∀ t, Steps p.tables e below (T13.setTop (mkF m 32 #[.val (.long (9223372036854775807 : Int64)), .second, .val (.long (1 : Int64)), .second, .val (.int (2 : Int32)), .val (.long (-9223372036854775808 : Int64)), .second] [(.ref bi_13), (.ref b6), (.ref b6)])) t → Steps p.tables e below (s₁.setTop (entryFrame m #[(.long (9223372036854775807 : Int64)), (.long (1 : Int64)), (.int (2 : Int32))] 7)) t := fun t k => J12 t (st13 t k)
  have Z16 : n0 ≤ T13.heap.size := Nat.le_trans Z10 K13.1
  have KK17 : Keep h0 T13.heap [] := KK11.trans K13 all0
  have J18 : ∀ t, Steps p.tables e below (T13.setTop (mkF m 33 #[.val (.long (9223372036854775807 : Int64)), .second, .val (.long (1 : Int64)), .second, .val (.int (2 : Int32)), .val (.long (-9223372036854775808 : Int64)), .second] [(.long (1 : Int64)), (.ref bi_13), (.ref b6), (.ref b6)])) t → Steps p.tables e below (s₁.setTop (entryFrame m #[(.long (9223372036854775807 : Int64)), (.long (1 : Int64)), (.int (2 : Int32))] 7)) t := fun t k => J15 t (by
      show Steps p.tables e below (T13.setTop (mkF m 32 #[.val (.long (9223372036854775807 : Int64)), .second, .val (.long (1 : Int64)), .second, .val (.int (2 : Int32)), .val (.long (-9223372036854775808 : Int64)), .second] [(.ref bi_13), (.ref b6), (.ref b6)])) _
      refine XS.lloadN X13.here hx rfl (hb hby d18_32) rfl ?_
      exact k)
  have f19 := A6.keep K13
  obtain ⟨cq20, kq20, q20a, q20b, q20c⟩ := isOf hZ rfl p13_1
  obtain ⟨_, _, ⟨T20, L20, k20, n20⟩, -, X20, ⟨Lc20, hQ20, l20, y20, z20⟩, st20⟩ := X13.virtualBack hx (y := (⟨"java/math/BigInteger", "add", "(J)Ljava/math/BigInteger;"⟩ : MethodName)) (z := (⟨"java/math/BigInteger", "add", "(J)Ljava/math/BigInteger;"⟩ : MethodName)) hown (mvT hZ (hw _ (List.mem_of_getElem? (i := 161) rfl))) (mvT hZ (hw _ (List.mem_of_getElem? (i := 162) rfl))) (notFace_of_selects (args := #[]) (mvT hZ (hw _ (List.mem_of_getElem? (i := 164) rfl)))) (mvT hZ (hw _ (List.mem_of_getElem? (i := 164) rfl))) (mvT hZ (hw _ (List.mem_of_getElem? (i := 163) rfl))) (by decide) (backOf (W := 2) (rm22 l Z a0 hw [] bi_13 mg_13 mcl_13 T13.heap n0 Z16 p13_1 p13_2 p13_3 p13_4 p13_5 p13_6 p13_7 p13_8) hZ (hw _ (List.mem_of_getElem? (i := 165) rfl)) (hw _ (List.mem_of_getElem? (i := 145) rfl)) (by decide) (by decide)) q20a q20c (g := (mkF m 33 #[.val (.long (9223372036854775807 : Int64)), .second, .val (.long (1 : Int64)), .second, .val (.int (2 : Int32)), .val (.long (-9223372036854775808 : Int64)), .second] [(.long (1 : Int64)), (.ref bi_13), (.ref b6), (.ref b6)])) rfl (by rw [hml]; rfl) (Steps.refl _) (argsL := [(.long (1 : Int64))]) (rest := [(.ref b6), (.ref b6)]) (lenOf pd_12 rfl) rfl (by show 2 * 0 + _ ≤ _; exact Nat.le_of_eq rfl) (hb hby d18_33) (fun _ _ => ⟨rfl, rfl, (by decide : 3 + 2 ≤ _), (by decide : 13 + 8 ≤ _)⟩)
  dsimp only [Pt.U, Pt.locs, Pt.cells, Pt.slots] at X20 l20 y20 z20 st20 hQ20
  subst y20 z20
  obtain ⟨bi_20, m2_20, mcl'_20, rfl, Nq20, K20, p20_1, p20_2, p20_3, p20_4, p20_5, p20_6, p20_7, p20_8, p20_9, p20_10, p20_11, p20_12⟩ := hQ20
  have N21 : Fr n0 L20 := by rw [l20]; exact Fr.app N14 Nq20
  have J22 : ∀ t, Steps p.tables e below (T20.setTop (mkF m 36 #[.val (.long (9223372036854775807 : Int64)), .second, .val (.long (1 : Int64)), .second, .val (.int (2 : Int32)), .val (.long (-9223372036854775808 : Int64)), .second] [(.ref bi_20), (.ref b6), (.ref b6)])) t → Steps p.tables e below (s₁.setTop (entryFrame m #[(.long (9223372036854775807 : Int64)), (.long (1 : Int64)), (.int (2 : Int32))] 7)) t := fun t k => J18 t (st20.trans k)
  have Z23 : n0 ≤ T20.heap.size := Nat.le_trans Z16 K20.1
  have KK24 : Keep h0 T20.heap [] := KK17.trans K20 all0
  have J25 : ∀ t, Steps p.tables e below (T20.setTop (mkF m 38 #[.val (.long (9223372036854775807 : Int64)), .second, .val (.long (1 : Int64)), .second, .val (.int (2 : Int32)), .val (.long (-9223372036854775808 : Int64)), .second] [(.int (2 : Int32)), (.ref bi_20), (.ref b6), (.ref b6)])) t → Steps p.tables e below (s₁.setTop (entryFrame m #[(.long (9223372036854775807 : Int64)), (.long (1 : Int64)), (.int (2 : Int32))] 7)) t := fun t k => J22 t (by
      show Steps p.tables e below (T20.setTop (mkF m 36 #[.val (.long (9223372036854775807 : Int64)), .second, .val (.long (1 : Int64)), .second, .val (.int (2 : Int32)), .val (.long (-9223372036854775808 : Int64)), .second] [(.ref bi_20), (.ref b6), (.ref b6)])) _
      refine XS.iload X20.here hx rfl (hb hby d18_36) rfl ?_
      exact k)
  have f26 := f19.keep K20
  have f27 := F6_intVal.keep K13 nin0
  have f28 := f27.keep K20 nin0
  have f29 := F6_intCompact.keep K13 nin0
  have f30 := f29.keep K20 nin0
  have f31 := F6_scale.keep K13 nin0
  have f32 := f31.keep K20 nin0
  have f33 := F6_precision.keep K13 nin0
  have f34 := f33.keep K20 nin0
  obtain ⟨_, _, ⟨T35, L35, k35, n35⟩, -, X35, ⟨Lc35, hQ35, l35, y35, z35⟩, st35⟩ := X20.specialBack hx (y := (⟨"java/math/BigDecimal", "<init>", "(Ljava/math/BigInteger;I)V"⟩ : MethodName)) rfl hown (mvT hZ (hw _ (List.mem_of_getElem? (i := 181) rfl))) (mvT hZ (hw _ (List.mem_of_getElem? (i := 182) rfl))) (mvT hZ (hw _ (List.mem_of_getElem? (i := 183) rfl))) (by decide) (backOf (W := 1) (rm27 l Z a0 hw [] b6 bi_20 m2_20 mcl'_20 .null (.long (0 : Int64)) (.int (0 : Int32)) (.int (0 : Int32)) T20.heap n0 Z23 f26 ge8 p20_1 p20_3 p20_5 p20_6 p20_7 p20_8 (by assumption) (Ne.symm (Nat.ne_of_lt (Nat.lt_of_lt_of_le f19.lt p20_9))) (Ne.symm (Nat.ne_of_lt (Nat.lt_of_lt_of_le f19.lt p20_10))) f28 f30 f32 f34) hZ (hw _ (List.mem_of_getElem? (i := 183) rfl)) (hw _ (List.mem_of_getElem? (i := 105) rfl)) (by decide) (by decide)) (g := (mkF m 38 #[.val (.long (9223372036854775807 : Int64)), .second, .val (.long (1 : Int64)), .second, .val (.int (2 : Int32)), .val (.long (-9223372036854775808 : Int64)), .second] [(.int (2 : Int32)), (.ref bi_20), (.ref b6), (.ref b6)])) rfl (by rw [hml]; rfl) (Steps.refl _) (a := b6) (argsL := [(.ref bi_20), (.int (2 : Int32))]) (rest := [(.ref b6)]) (lenOf pd_13 rfl) rfl (by show 2 * 0 + _ ≤ _; exact Nat.le_of_eq rfl) (hb hby d18_38) (fun _ _ => ⟨rfl, rfl, (by decide : 5 + 0 ≤ _), (by decide : 21 + 0 ≤ _)⟩)
  dsimp only [Pt.U, Pt.locs, Pt.cells, Pt.slots] at X35 l35 y35 z35 st35 hQ35
  subst y35 z35
  obtain ⟨rfl, Nq35, K35, p35_1, p35_2, p35_3, p35_4⟩ := hQ35
  have N36 : Fr n0 L35 := by rw [l35]; exact Fr.app N21 Nq35
  have J37 : ∀ t, Steps p.tables e below (T35.setTop (mkF m 41 #[.val (.long (9223372036854775807 : Int64)), .second, .val (.long (1 : Int64)), .second, .val (.int (2 : Int32)), .val (.long (-9223372036854775808 : Int64)), .second] [(.ref b6)])) t → Steps p.tables e below (s₁.setTop (entryFrame m #[(.long (9223372036854775807 : Int64)), (.long (1 : Int64)), (.int (2 : Int32))] 7)) t := fun t k => J25 t (st35.trans k)
  have Z38 : n0 ≤ T35.heap.size := Nat.le_trans Z23 K35.1
  have KK39 : Keep h0 T35.heap [] := KK24.trans K35 (allS (Or.inr sz9) all0)
  obtain ⟨fs, hr, hrun, hended, hW, hsame⟩ := X35.leave (v := some (.ref b6)) (fun h => by rw [Bd.returns] at h; cases h)
  have f40 := p20_1.keep K35
  have f41 := p20_2.keep K35 (ninS (Ne.symm (Nat.ne_of_lt (Nat.lt_of_lt_of_le f19.lt p20_9))) nin0)
  have f42 := p20_3.keep K35 (ninS (Ne.symm (Nat.ne_of_lt (Nat.lt_of_lt_of_le f19.lt p20_9))) nin0)
  have f43 := p20_4.keep K35 (ninS (Ne.symm (Nat.ne_of_lt (Nat.lt_of_lt_of_le f19.lt p20_9))) nin0)
  have f44 : Arr Z T35.heap m2_20 mcl'_20 .int := ⟨K35.2.1 _ _ p20_5.1 (ninS (Ne.symm (Nat.ne_of_lt (Nat.lt_of_lt_of_le f19.lt p20_10))) nin0), p20_5.2⟩
  refine ⟨_, _, J37 _ ?_, hrun, hended, _, _, rfl, ?_, ⟨_, rfl⟩, hW, hsame.mono (by decide) (by decide)⟩
  · show Steps p.tables e below (T35.setTop (mkF m 41 #[.val (.long (9223372036854775807 : Int64)), .second, .val (.long (1 : Int64)), .second, .val (.int (2 : Int32)), .val (.long (-9223372036854775808 : Int64)), .second] [(.ref b6)])) _
    jvm_step X35.here [X35.here.top, hx, (hb hby d18_41), X35.method', Bd.returns, Value.isRef, FieldType.isReference]
    first | (intro acts; rw [hr _ acts rfl rfl rfl]) | rw [hr _ _ rfl rfl rfl]
    exact Steps.refl _
  · show Q18 Z  h0 n0 _ T35.heap _
    exact ⟨b6, bi_20, m2_20, mcl'_20, rfl, N36, KK39, p35_1, p35_2, p35_3, p35_4, f40, f41, f42, f43, f44, p20_6, p20_7, p20_8, sz9, (Nat.le_trans KK17.1 p20_9), (Nat.le_trans KK17.1 p20_10), (Nat.ne_of_lt (Nat.lt_of_lt_of_le f19.lt p20_9)), (Nat.ne_of_lt (Nat.lt_of_lt_of_le f19.lt p20_10)), p20_11, p20_12⟩
theorem d17_0 : decode jdk_17_method_134_code 0 = .ok (.iload_n 2, 1) := by decide +kernel
theorem d17_1 : decode jdk_17_method_134_code 1 = .ok (.i2l, 1) := by decide +kernel
theorem d17_2 : decode jdk_17_method_134_code 2 = .ok (.iload 5, 2) := by decide +kernel
theorem d17_4 : decode jdk_17_method_134_code 4 = .ok (.i2l, 1) := by decide +kernel
theorem d17_5 : decode jdk_17_method_134_code 5 = .ok (.lsub, 1) := by decide +kernel
theorem d17_6 : decode jdk_17_method_134_code 6 = .ok (.lstore 6, 2) := by decide +kernel
theorem d17_8 : decode jdk_17_method_134_code 8 = .ok (.lload 6, 2) := by decide +kernel
theorem d17_10 : decode jdk_17_method_134_code 10 = .ok (.lconst 0, 1) := by decide +kernel
theorem d17_11 : decode jdk_17_method_134_code 11 = .ok (.lcmp, 1) := by decide +kernel
theorem d17_12 : decode jdk_17_method_134_code 12 = .ok (.ifCond .ne 10, 3) := by decide +kernel
theorem d17_15 : decode jdk_17_method_134_code 15 = .ok (.lload_n 0, 1) := by decide +kernel
theorem d17_16 : decode jdk_17_method_134_code 16 = .ok (.lload_n 3, 1) := by decide +kernel
theorem d17_17 : decode jdk_17_method_134_code 17 = .ok (.iload_n 2, 1) := by decide +kernel
theorem d17_18 : decode jdk_17_method_134_code 18 = .ok (.invokestatic 1000, 3) := by decide +kernel
theorem pd_14 : parseMethodDescriptor "(JJI)Ljava/math/BigDecimal;" = some ⟨[.long, .long, .int], some (.object "java/math/BigDecimal")⟩ := by decide +kernel
theorem d17_21 : decode jdk_17_method_134_code 21 = .ok (.areturn, 1) := by decide +kernel
theorem pn_17 : plainName "java/math/BigDecimal" = true := by first | (simp [plainName, overriddenIn]; done) | decide +kernel
theorem ef_17_xxxx (m : MethodId) (x0 : Int64) (x1 : Int32) (x2 : Int64) (x3 : Int32) : entryFrame m #[(.long x0), (.int x1), (.long x2), (.int x3)] 12 = mkF m 0 #[.val (.long x0), .second, .val (.int x1), .val (.long x2), .second, .val (.int x3), .unset, .unset, .unset, .unset, .unset, .unset] [] := by first | (simp [entryFrame, mkF, argsToLocals, Value.category]; done) | rfl
def Q17 (Z : State)  (h0 : Heap) (n0 : Nat) (v : Option Value) (h : Heap) (L : List Loc) : Prop := ∃ (bd : Addr) (bi : Addr) (mg : Addr) (mcl : Cell), v = some (.ref bd) ∧ Fr n0 L ∧ Keep h0 h [] ∧ (Exa Z h bd "java/math/BigDecimal") ∧ (Fld Z h bd "java/math/BigDecimal" "intVal" "Ljava/math/BigInteger;" (.ref bi)) ∧ (Fld Z h bd "java/math/BigDecimal" "intCompact" "J" (.long (-9223372036854775808 : Int64))) ∧ (Fld Z h bd "java/math/BigDecimal" "scale" "I" (.int (2 : Int32))) ∧ (Exa Z h bi "java/math/BigInteger") ∧ (Fld Z h bi "java/math/BigInteger" "signum" "I" (.int (1 : Int32))) ∧ (Fld Z h bi "java/math/BigInteger" "mag" "[I" (.ref mg)) ∧ (Fld Z h bi "java/math/BigInteger" "bitLengthPlusOne" "I" (.int (0 : Int32))) ∧ (Arr Z h mg mcl .int) ∧ (mcl.slots.size = 2) ∧ (mcl.slots[0]? = some (.int (-2147483648 : Int32))) ∧ (mcl.slots[1]? = some (.int (0 : Int32))) ∧ (h0.size ≤ bd) ∧ (h0.size ≤ bi) ∧ (h0.size ≤ mg) ∧ (bd ≠ bi) ∧ (bd ≠ mg) ∧ (bi ≠ mg) ∧ (n0 ≤ bi)
set_option maxRecDepth 65536 in
set_option maxHeartbeats 40000000 in
theorem rm17 (l : Launch) (Z : State) (a0 : Array Value) (hw : ∀ d ∈ tables_1, d.before a0 Z = true) (ws : List Jvm.Cond)  (h0 : Heap) (n0 : Nat) (Z0 : n0 ≤ h0.size) (hM : MirrorMade Z "java/math/BigInteger") :
    MetFree l (⟨"java/math/BigDecimal", "add", "(JIJI)Ljava/math/BigDecimal;"⟩ : MethodName) (head1 (Jvm.Cond.code (⟨"java/math/BigDecimal", "add", "(JIJI)Ljava/math/BigDecimal;"⟩ : MethodName) jdk_17_method_134_code 12 (some (.object "java/math/BigDecimal")) :: ws) ({ frames := 5, cells := 5, slots := 21, locals := 75 } : Room)) (fun a U => a = #[(.long (9223372036854775807 : Int64)), (.int (2 : Int32)), (.long (1 : Int64)), (.int (2 : Int32))] ∧ Z.Warmed39 U.vm ∧ U.heap = h0) (fun _ _ _ _ _ => True) (fun _ U o U' => ∃ v L, o = .returned v ∧ Q17 Z  h0 n0 v U'.heap L ∧ FrameEnd U o U' L ({ frames := 5, cells := 5, slots := 21, locals := 75 } : Room).cells ({ frames := 5, cells := 5, slots := 21, locals := 75 } : Room).slots) := by
  refine MetFree.of_bodySF (plainFor_of_name pn_17) hisR ?_
  intro p e s m args below meth c s₁ Bd hml0 hP hK
  obtain ⟨rfl, hZ, hh⟩ := hP
  have hx := Bd.exec
  have hby := Bd.bytes
  have hml : c.maxLocals = 12 := hml0
  have hown : s.vm.findClass "java/math/BigDecimal" = some m.cls := findClass_of_methodNamed Bd.named
  have hnm := (name_of_methodNamed Bd.named Bd.method).1
  have X0 : Stand p l e ({ frames := 5, cells := 5, slots := 21, locals := 75 } : Room) s m #[(.long (9223372036854775807 : Int64)), (.int (2 : Int32)), (.long (1 : Int64)), (.int (2 : Int32))] below meth c s₁ [] 0 0 := Stand.of_body Bd
  have e0 : s₁.heap = h0 := by rw [← hh, Bd.state]; rfl
  have N0 := Fr.nil n0
  have pre0 : ∀ t, Steps p.tables e below (s₁.setTop (mkF m 0 #[.val (.long (9223372036854775807 : Int64)), .second, .val (.int (2 : Int32)), .val (.long (1 : Int64)), .second, .val (.int (2 : Int32)), .unset, .unset, .unset, .unset, .unset, .unset] [])) t → Steps p.tables e below (s₁.setTop (entryFrame m #[(.long (9223372036854775807 : Int64)), (.int (2 : Int32)), (.long (1 : Int64)), (.int (2 : Int32))] 12)) t := fun t k => castTop (ef_17_xxxx m (9223372036854775807 : Int64) (2 : Int32) (1 : Int64) (2 : Int32)) k
  have J1 : ∀ t, Steps p.tables e below (s₁.setTop (mkF m 18 #[.val (.long (9223372036854775807 : Int64)), .second, .val (.int (2 : Int32)), .val (.long (1 : Int64)), .second, .val (.int (2 : Int32)), .val (.long (((2 : Int32).toInt64) - ((2 : Int32).toInt64))), .second, .unset, .unset, .unset, .unset] [(.int (2 : Int32)), (.long (1 : Int64)), (.long (9223372036854775807 : Int64))])) t → Steps p.tables e below (s₁.setTop (entryFrame m #[(.long (9223372036854775807 : Int64)), (.int (2 : Int32)), (.long (1 : Int64)), (.int (2 : Int32))] 12)) t := fun t k => pre0 t (by
      show Steps p.tables e below (s₁.setTop (mkF m 0 #[.val (.long (9223372036854775807 : Int64)), .second, .val (.int (2 : Int32)), .val (.long (1 : Int64)), .second, .val (.int (2 : Int32)), .unset, .unset, .unset, .unset, .unset, .unset] [])) _
      refine XS.iloadN X0.here hx rfl (hb hby d17_0) rfl ?_
      show Steps p.tables e below (s₁.setTop (mkF m 1 #[.val (.long (9223372036854775807 : Int64)), .second, .val (.int (2 : Int32)), .val (.long (1 : Int64)), .second, .val (.int (2 : Int32)), .unset, .unset, .unset, .unset, .unset, .unset] [(.int (2 : Int32))])) _
      refine XS.i2l X0.here hx rfl (hb hby d17_1) rfl ?_
      show Steps p.tables e below (s₁.setTop (mkF m 2 #[.val (.long (9223372036854775807 : Int64)), .second, .val (.int (2 : Int32)), .val (.long (1 : Int64)), .second, .val (.int (2 : Int32)), .unset, .unset, .unset, .unset, .unset, .unset] [(.long ((2 : Int32).toInt64))])) _
      refine XS.iload X0.here hx rfl (hb hby d17_2) rfl ?_
      show Steps p.tables e below (s₁.setTop (mkF m 4 #[.val (.long (9223372036854775807 : Int64)), .second, .val (.int (2 : Int32)), .val (.long (1 : Int64)), .second, .val (.int (2 : Int32)), .unset, .unset, .unset, .unset, .unset, .unset] [(.int (2 : Int32)), (.long ((2 : Int32).toInt64))])) _
      refine XS.i2l X0.here hx rfl (hb hby d17_4) rfl ?_
      show Steps p.tables e below (s₁.setTop (mkF m 5 #[.val (.long (9223372036854775807 : Int64)), .second, .val (.int (2 : Int32)), .val (.long (1 : Int64)), .second, .val (.int (2 : Int32)), .unset, .unset, .unset, .unset, .unset, .unset] [(.long ((2 : Int32).toInt64)), (.long ((2 : Int32).toInt64))])) _
      refine XS.lsub X0.here hx rfl (hb hby d17_5) rfl ?_
      show Steps p.tables e below (s₁.setTop (mkF m 6 #[.val (.long (9223372036854775807 : Int64)), .second, .val (.int (2 : Int32)), .val (.long (1 : Int64)), .second, .val (.int (2 : Int32)), .unset, .unset, .unset, .unset, .unset, .unset] [(.long (((2 : Int32).toInt64) - ((2 : Int32).toInt64)))])) _
      refine XS.lstore X0.here hx rfl (hb hby d17_6) rfl (l' := #[.val (.long (9223372036854775807 : Int64)), .second, .val (.int (2 : Int32)), .val (.long (1 : Int64)), .second, .val (.int (2 : Int32)), .val (.long (((2 : Int32).toInt64) - ((2 : Int32).toInt64))), .second, .unset, .unset, .unset, .unset]) rfl ?_
      show Steps p.tables e below (s₁.setTop (mkF m 8 #[.val (.long (9223372036854775807 : Int64)), .second, .val (.int (2 : Int32)), .val (.long (1 : Int64)), .second, .val (.int (2 : Int32)), .val (.long (((2 : Int32).toInt64) - ((2 : Int32).toInt64))), .second, .unset, .unset, .unset, .unset] [])) _
      refine XS.lload X0.here hx rfl (hb hby d17_8) rfl ?_
      show Steps p.tables e below (s₁.setTop (mkF m 10 #[.val (.long (9223372036854775807 : Int64)), .second, .val (.int (2 : Int32)), .val (.long (1 : Int64)), .second, .val (.int (2 : Int32)), .val (.long (((2 : Int32).toInt64) - ((2 : Int32).toInt64))), .second, .unset, .unset, .unset, .unset] [(.long (((2 : Int32).toInt64) - ((2 : Int32).toInt64)))])) _
      refine XS.lconst X0.here hx rfl (hb hby d17_10) ?_
      show Steps p.tables e below (s₁.setTop (mkF m 11 #[.val (.long (9223372036854775807 : Int64)), .second, .val (.int (2 : Int32)), .val (.long (1 : Int64)), .second, .val (.int (2 : Int32)), .val (.long (((2 : Int32).toInt64) - ((2 : Int32).toInt64))), .second, .unset, .unset, .unset, .unset] [(.long (0 : Int64)), (.long (((2 : Int32).toInt64) - ((2 : Int32).toInt64)))])) _
      refine XS.lcmp X0.here hx rfl (hb hby d17_11) rfl ?_
      show Steps p.tables e below (s₁.setTop (mkF m 12 #[.val (.long (9223372036854775807 : Int64)), .second, .val (.int (2 : Int32)), .val (.long (1 : Int64)), .second, .val (.int (2 : Int32)), .val (.long (((2 : Int32).toInt64) - ((2 : Int32).toInt64))), .second, .unset, .unset, .unset, .unset] [(.int (lcmpW (((2 : Int32).toInt64) - ((2 : Int32).toInt64)) (0 : Int64)))])) _
      refine XS.ifNo X0.here hx rfl (hb hby d17_12) rfl ((if0 _ _).trans (teq (by decide)).2) ?_
      show Steps p.tables e below (s₁.setTop (mkF m 15 #[.val (.long (9223372036854775807 : Int64)), .second, .val (.int (2 : Int32)), .val (.long (1 : Int64)), .second, .val (.int (2 : Int32)), .val (.long (((2 : Int32).toInt64) - ((2 : Int32).toInt64))), .second, .unset, .unset, .unset, .unset] [])) _
      refine XS.lloadN X0.here hx rfl (hb hby d17_15) rfl ?_
      show Steps p.tables e below (s₁.setTop (mkF m 16 #[.val (.long (9223372036854775807 : Int64)), .second, .val (.int (2 : Int32)), .val (.long (1 : Int64)), .second, .val (.int (2 : Int32)), .val (.long (((2 : Int32).toInt64) - ((2 : Int32).toInt64))), .second, .unset, .unset, .unset, .unset] [(.long (9223372036854775807 : Int64))])) _
      refine XS.lloadN X0.here hx rfl (hb hby d17_16) rfl ?_
      show Steps p.tables e below (s₁.setTop (mkF m 17 #[.val (.long (9223372036854775807 : Int64)), .second, .val (.int (2 : Int32)), .val (.long (1 : Int64)), .second, .val (.int (2 : Int32)), .val (.long (((2 : Int32).toInt64) - ((2 : Int32).toInt64))), .second, .unset, .unset, .unset, .unset] [(.long (1 : Int64)), (.long (9223372036854775807 : Int64))])) _
      refine XS.iloadN X0.here hx rfl (hb hby d17_17) rfl ?_
      exact k)
  obtain ⟨_, _, ⟨T2, L2, k2, n2⟩, -, X2, ⟨Lc2, hQ2, l2, y2, z2⟩, st2⟩ := Jvm.LawKit.callS X0 hx (y := (⟨"java/math/BigDecimal", "add", "(JJI)Ljava/math/BigDecimal;"⟩ : MethodName)) hown (mvT hZ (hw _ (List.mem_of_getElem? (i := 137) rfl))) (mvT hZ (hw _ (List.mem_of_getElem? (i := 138) rfl))) (mvT hZ (hw _ (List.mem_of_getElem? (i := 105) rfl))) (mvT hZ (hw _ (List.mem_of_getElem? (i := 139) rfl))) (by decide) (backOf (W := 0) (rm18 l Z a0 hw []  h0 n0 Z0 (by assumption)) hZ (hw _ (List.mem_of_getElem? (i := 139) rfl)) (hw _ (List.mem_of_getElem? (i := 105) rfl)) (by decide) (by decide)) (g := (mkF m 18 #[.val (.long (9223372036854775807 : Int64)), .second, .val (.int (2 : Int32)), .val (.long (1 : Int64)), .second, .val (.int (2 : Int32)), .val (.long (((2 : Int32).toInt64) - ((2 : Int32).toInt64))), .second, .unset, .unset, .unset, .unset] [(.int (2 : Int32)), (.long (1 : Int64)), (.long (9223372036854775807 : Int64))])) rfl (by rw [hml]; rfl) (argsL := [(.long (9223372036854775807 : Int64)), (.long (1 : Int64)), (.int (2 : Int32))]) (rest := []) (lenOf pd_14 rfl) rfl (by show 2 * 0 + _ ≤ _; exact Nat.le_of_eq rfl) (hb hby d17_18) (fun _ _ => ⟨rfl, e0, (by decide : 0 + 5 ≤ _), (by decide : 0 + 21 ≤ _)⟩)
  dsimp only [Pt.U, Pt.locs, Pt.cells, Pt.slots] at X2 l2 y2 z2 st2 hQ2
  subst y2 z2
  obtain ⟨bd_2, bi_2, mg_2, mcl_2, rfl, Nq2, K2, p2_1, p2_2, p2_3, p2_4, p2_5, p2_6, p2_7, p2_8, p2_9, p2_10, p2_11, p2_12, p2_13, p2_14, p2_15, p2_16, p2_17, p2_18, p2_19⟩ := hQ2
  have N3 : Fr n0 L2 := by rw [l2]; exact Fr.app N0 Nq2
  have J4 : ∀ t, Steps p.tables e below (T2.setTop (mkF m 21 #[.val (.long (9223372036854775807 : Int64)), .second, .val (.int (2 : Int32)), .val (.long (1 : Int64)), .second, .val (.int (2 : Int32)), .val (.long (((2 : Int32).toInt64) - ((2 : Int32).toInt64))), .second, .unset, .unset, .unset, .unset] [(.ref bd_2)])) t → Steps p.tables e below (s₁.setTop (entryFrame m #[(.long (9223372036854775807 : Int64)), (.int (2 : Int32)), (.long (1 : Int64)), (.int (2 : Int32))] 12)) t := fun t k => J1 t (st2 t k)
  have Z5 : n0 ≤ T2.heap.size := Nat.le_trans Z0 K2.1
  have KK6 : Keep h0 T2.heap [] := (Keep.refl h0 []).trans K2 all0
  obtain ⟨fs, hr, hrun, hended, hW, hsame⟩ := X2.leave (v := some (.ref bd_2)) (fun h => by rw [Bd.returns] at h; cases h)
  refine ⟨_, _, J4 _ ?_, hrun, hended, _, _, rfl, ?_, ⟨_, rfl⟩, hW, hsame.mono (by decide) (by decide)⟩
  · show Steps p.tables e below (T2.setTop (mkF m 21 #[.val (.long (9223372036854775807 : Int64)), .second, .val (.int (2 : Int32)), .val (.long (1 : Int64)), .second, .val (.int (2 : Int32)), .val (.long (((2 : Int32).toInt64) - ((2 : Int32).toInt64))), .second, .unset, .unset, .unset, .unset] [(.ref bd_2)])) _
    jvm_step X2.here [X2.here.top, hx, (hb hby d17_21), X2.method', Bd.returns, Value.isRef, FieldType.isReference]
    first | (intro acts; rw [hr _ acts rfl rfl rfl]) | rw [hr _ _ rfl rfl rfl]
    exact Steps.refl _
  · show Q17 Z  h0 n0 _ T2.heap _
    exact ⟨bd_2, bi_2, mg_2, mcl_2, rfl, N3, KK6, p2_1, p2_2, p2_3, p2_4, p2_5, p2_6, p2_7, p2_8, p2_9, p2_10, p2_11, p2_12, (Nat.le_trans (Keep.refl h0 []).1 p2_13), (Nat.le_trans (Keep.refl h0 []).1 p2_14), (Nat.le_trans (Keep.refl h0 []).1 p2_15), p2_16, p2_17, p2_18, p2_19⟩
theorem d16_0 : decode jdk_17_method_26_code 0 = .ok (.aload_n 0, 1) := by decide +kernel
theorem d16_1 : decode jdk_17_method_26_code 1 = .ok (.getfield 24, 3) := by decide +kernel
theorem d16_4 : decode jdk_17_method_26_code 4 = .ok (.ldc2_w 125, 3) := by decide +kernel
theorem d16_7 : decode jdk_17_method_26_code 7 = .ok (.lcmp, 1) := by decide +kernel
theorem d16_8 : decode jdk_17_method_26_code 8 = .ok (.ifCond .eq 54, 3) := by decide +kernel
theorem d16_11 : decode jdk_17_method_26_code 11 = .ok (.aload_n 1, 1) := by decide +kernel
theorem d16_12 : decode jdk_17_method_26_code 12 = .ok (.getfield 24, 3) := by decide +kernel
theorem d16_15 : decode jdk_17_method_26_code 15 = .ok (.ldc2_w 125, 3) := by decide +kernel
theorem d16_18 : decode jdk_17_method_26_code 18 = .ok (.lcmp, 1) := by decide +kernel
theorem d16_19 : decode jdk_17_method_26_code 19 = .ok (.ifCond .eq 23, 3) := by decide +kernel
theorem d16_22 : decode jdk_17_method_26_code 22 = .ok (.aload_n 0, 1) := by decide +kernel
theorem d16_23 : decode jdk_17_method_26_code 23 = .ok (.getfield 24, 3) := by decide +kernel
theorem d16_26 : decode jdk_17_method_26_code 26 = .ok (.aload_n 0, 1) := by decide +kernel
theorem d16_27 : decode jdk_17_method_26_code 27 = .ok (.getfield 17, 3) := by decide +kernel
theorem d16_30 : decode jdk_17_method_26_code 30 = .ok (.aload_n 1, 1) := by decide +kernel
theorem d16_31 : decode jdk_17_method_26_code 31 = .ok (.getfield 24, 3) := by decide +kernel
theorem d16_34 : decode jdk_17_method_26_code 34 = .ok (.aload_n 1, 1) := by decide +kernel
theorem d16_35 : decode jdk_17_method_26_code 35 = .ok (.getfield 17, 3) := by decide +kernel
theorem d16_38 : decode jdk_17_method_26_code 38 = .ok (.invokestatic 257, 3) := by decide +kernel
theorem pd_15 : parseMethodDescriptor "(JIJI)Ljava/math/BigDecimal;" = some ⟨[.long, .int, .long, .int], some (.object "java/math/BigDecimal")⟩ := by decide +kernel
theorem d16_41 : decode jdk_17_method_26_code 41 = .ok (.areturn, 1) := by decide +kernel
theorem pn_16 : plainName "java/math/BigDecimal" = true := by first | (simp [plainName, overriddenIn]; done) | decide +kernel
theorem ef_16_xx (m : MethodId) (x0 : Addr) (x1 : Addr) : entryFrame m #[(.ref x0), (.ref x1)] 2 = mkF m 0 #[.val (.ref x0), .val (.ref x1)] [] := by first | (simp [entryFrame, mkF, argsToLocals, Value.category]; done) | rfl
def Q16 (Z : State) (a1 : Addr) (a2 : Addr) (h0 : Heap) (n0 : Nat) (v : Option Value) (h : Heap) (L : List Loc) : Prop := ∃ (bd : Addr) (bi : Addr) (mg : Addr) (mcl : Cell), v = some (.ref bd) ∧ Fr n0 L ∧ Keep h0 h [] ∧ (Exa Z h bd "java/math/BigDecimal") ∧ (Fld Z h bd "java/math/BigDecimal" "intVal" "Ljava/math/BigInteger;" (.ref bi)) ∧ (Fld Z h bd "java/math/BigDecimal" "intCompact" "J" (.long (-9223372036854775808 : Int64))) ∧ (Fld Z h bd "java/math/BigDecimal" "scale" "I" (.int (2 : Int32))) ∧ (Exa Z h bi "java/math/BigInteger") ∧ (Fld Z h bi "java/math/BigInteger" "signum" "I" (.int (1 : Int32))) ∧ (Fld Z h bi "java/math/BigInteger" "mag" "[I" (.ref mg)) ∧ (Fld Z h bi "java/math/BigInteger" "bitLengthPlusOne" "I" (.int (0 : Int32))) ∧ (Arr Z h mg mcl .int) ∧ (mcl.slots.size = 2) ∧ (mcl.slots[0]? = some (.int (-2147483648 : Int32))) ∧ (mcl.slots[1]? = some (.int (0 : Int32))) ∧ (h0.size ≤ bd) ∧ (h0.size ≤ bi) ∧ (h0.size ≤ mg) ∧ (bd ≠ bi) ∧ (bd ≠ mg) ∧ (bi ≠ mg) ∧ (n0 ≤ bi)
set_option maxRecDepth 65536 in
set_option maxHeartbeats 40000000 in
theorem rm16 (l : Launch) (Z : State) (a0 : Array Value) (hw : ∀ d ∈ tables_1, d.before a0 Z = true) (ws : List Jvm.Cond) (a1 : Addr) (a2 : Addr) (h0 : Heap) (n0 : Nat) (Z0 : n0 ≤ h0.size) (E_a1 : Exa Z h0 a1 "java/math/BigDecimal") (F_intVal_a1 : Fld Z h0 a1 "java/math/BigDecimal" "intVal" "Ljava/math/BigInteger;" .null) (F_intCompact_a1 : Fld Z h0 a1 "java/math/BigDecimal" "intCompact" "J" (.long (9223372036854775807 : Int64))) (F_scale_a1 : Fld Z h0 a1 "java/math/BigDecimal" "scale" "I" (.int (2 : Int32))) (F_intVal_a2 : Fld Z h0 a2 "java/math/BigDecimal" "intVal" "Ljava/math/BigInteger;" .null) (F_intCompact_a2 : Fld Z h0 a2 "java/math/BigDecimal" "intCompact" "J" (.long (1 : Int64))) (F_scale_a2 : Fld Z h0 a2 "java/math/BigDecimal" "scale" "I" (.int (2 : Int32))) (hM : MirrorMade Z "java/math/BigInteger") :
    MetFree l (⟨"java/math/BigDecimal", "add", "(Ljava/math/BigDecimal;)Ljava/math/BigDecimal;"⟩ : MethodName) (head1 (Jvm.Cond.code (⟨"java/math/BigDecimal", "add", "(Ljava/math/BigDecimal;)Ljava/math/BigDecimal;"⟩ : MethodName) jdk_17_method_26_code 2 (some (.object "java/math/BigDecimal")) :: ws) ({ frames := 6, cells := 5, slots := 21, locals := 98 } : Room)) (fun a U => a = #[(.ref a1), (.ref a2)] ∧ Z.Warmed39 U.vm ∧ U.heap = h0) (fun _ _ _ _ _ => True) (fun _ U o U' => ∃ v L, o = .returned v ∧ Q16 Z a1 a2 h0 n0 v U'.heap L ∧ FrameEnd U o U' L ({ frames := 6, cells := 5, slots := 21, locals := 98 } : Room).cells ({ frames := 6, cells := 5, slots := 21, locals := 98 } : Room).slots) := by
  refine MetFree.of_bodySF (plainFor_of_name pn_16) hisR ?_
  intro p e s m args below meth c s₁ Bd hml0 hP hK
  obtain ⟨rfl, hZ, hh⟩ := hP
  have hx := Bd.exec
  have hby := Bd.bytes
  have hml : c.maxLocals = 2 := hml0
  have hown : s.vm.findClass "java/math/BigDecimal" = some m.cls := findClass_of_methodNamed Bd.named
  have hnm := (name_of_methodNamed Bd.named Bd.method).1
  have X0 : Stand p l e ({ frames := 6, cells := 5, slots := 21, locals := 98 } : Room) s m #[(.ref a1), (.ref a2)] below meth c s₁ [] 0 0 := Stand.of_body Bd
  have e0 : s₁.heap = h0 := by rw [← hh, Bd.state]; rfl
  have N0 := Fr.nil n0
  have pre0 : ∀ t, Steps p.tables e below (s₁.setTop (mkF m 0 #[.val (.ref a1), .val (.ref a2)] [])) t → Steps p.tables e below (s₁.setTop (entryFrame m #[(.ref a1), (.ref a2)] 2)) t := fun t k => castTop (ef_16_xx m a1 a2) k
  have J1 : ∀ t, Steps p.tables e below (s₁.setTop (mkF m 1 #[.val (.ref a1), .val (.ref a2)] [(.ref a1)])) t → Steps p.tables e below (s₁.setTop (entryFrame m #[(.ref a1), (.ref a2)] 2)) t := fun t k => pre0 t (by
      show Steps p.tables e below (s₁.setTop (mkF m 0 #[.val (.ref a1), .val (.ref a2)] [])) _
      refine XS.aloadN X0.here hx rfl (hb hby d16_0) rfl rfl ?_
      exact k)
  obtain ⟨T2, X2, e2, st2⟩ := getF X0 hx hZ hown (host := "") (Or.inl (hw _ (List.mem_of_getElem? (i := 125) rfl))) Via.refl e0 F_intCompact_a1 (g := (mkF m 1 #[.val (.ref a1), .val (.ref a2)] [(.ref a1)])) rfl rfl (hb hby d16_1)
  have J3 : ∀ t, Steps p.tables e below (T2.setTop (mkF m 4 #[.val (.ref a1), .val (.ref a2)] [(.long (9223372036854775807 : Int64))])) t → Steps p.tables e below (s₁.setTop (entryFrame m #[(.ref a1), (.ref a2)] 2)) t := fun t k => J1 t (st2 t k)
  have J4 : ∀ t, Steps p.tables e below (T2.setTop (mkF m 12 #[.val (.ref a1), .val (.ref a2)] [(.ref a2)])) t → Steps p.tables e below (s₁.setTop (entryFrame m #[(.ref a1), (.ref a2)] 2)) t := fun t k => J3 t (by
      show Steps p.tables e below (T2.setTop (mkF m 4 #[.val (.ref a1), .val (.ref a2)] [(.long (9223372036854775807 : Int64))])) _
      refine X2.ldc2Long hx hown (mvT hZ (hw _ (List.mem_of_getElem? (i := 109) rfl))) (g := (mkF m 4 #[.val (.ref a1), .val (.ref a2)] [(.long (9223372036854775807 : Int64))])) rfl (hb hby d16_4) _ ?_
      show Steps p.tables e below (T2.setTop (mkF m 7 #[.val (.ref a1), .val (.ref a2)] [(.long (-9223372036854775808 : Int64)), (.long (9223372036854775807 : Int64))])) _
      refine XS.lcmp X2.here hx rfl (hb hby d16_7) rfl ?_
      show Steps p.tables e below (T2.setTop (mkF m 8 #[.val (.ref a1), .val (.ref a2)] [(.int (lcmpW (9223372036854775807 : Int64) (-9223372036854775808 : Int64)))])) _
      refine XS.ifNo X2.here hx rfl (hb hby d16_8) rfl ((if0 _ _).trans (feq (by decide)).1) ?_
      show Steps p.tables e below (T2.setTop (mkF m 11 #[.val (.ref a1), .val (.ref a2)] [])) _
      refine XS.aloadN X2.here hx rfl (hb hby d16_11) rfl rfl ?_
      exact k)
  obtain ⟨T5, X5, e5, st5⟩ := getF X2 hx hZ hown (host := "") (Or.inl (hw _ (List.mem_of_getElem? (i := 125) rfl))) Via.refl e2 F_intCompact_a2 (g := (mkF m 12 #[.val (.ref a1), .val (.ref a2)] [(.ref a2)])) rfl rfl (hb hby d16_12)
  have J6 : ∀ t, Steps p.tables e below (T5.setTop (mkF m 15 #[.val (.ref a1), .val (.ref a2)] [(.long (1 : Int64))])) t → Steps p.tables e below (s₁.setTop (entryFrame m #[(.ref a1), (.ref a2)] 2)) t := fun t k => J4 t (st5 t k)
  have J7 : ∀ t, Steps p.tables e below (T5.setTop (mkF m 23 #[.val (.ref a1), .val (.ref a2)] [(.ref a1)])) t → Steps p.tables e below (s₁.setTop (entryFrame m #[(.ref a1), (.ref a2)] 2)) t := fun t k => J6 t (by
      show Steps p.tables e below (T5.setTop (mkF m 15 #[.val (.ref a1), .val (.ref a2)] [(.long (1 : Int64))])) _
      refine X5.ldc2Long hx hown (mvT hZ (hw _ (List.mem_of_getElem? (i := 109) rfl))) (g := (mkF m 15 #[.val (.ref a1), .val (.ref a2)] [(.long (1 : Int64))])) rfl (hb hby d16_15) _ ?_
      show Steps p.tables e below (T5.setTop (mkF m 18 #[.val (.ref a1), .val (.ref a2)] [(.long (-9223372036854775808 : Int64)), (.long (1 : Int64))])) _
      refine XS.lcmp X5.here hx rfl (hb hby d16_18) rfl ?_
      show Steps p.tables e below (T5.setTop (mkF m 19 #[.val (.ref a1), .val (.ref a2)] [(.int (lcmpW (1 : Int64) (-9223372036854775808 : Int64)))])) _
      refine XS.ifNo X5.here hx rfl (hb hby d16_19) rfl ((if0 _ _).trans (feq (by decide)).1) ?_
      show Steps p.tables e below (T5.setTop (mkF m 22 #[.val (.ref a1), .val (.ref a2)] [])) _
      refine XS.aloadN X5.here hx rfl (hb hby d16_22) rfl rfl ?_
      exact k)
  obtain ⟨T8, X8, e8, st8⟩ := getF X5 hx hZ hown (host := "") (Or.inl (hw _ (List.mem_of_getElem? (i := 125) rfl))) Via.refl e5 F_intCompact_a1 (g := (mkF m 23 #[.val (.ref a1), .val (.ref a2)] [(.ref a1)])) rfl rfl (hb hby d16_23)
  have J9 : ∀ t, Steps p.tables e below (T8.setTop (mkF m 26 #[.val (.ref a1), .val (.ref a2)] [(.long (9223372036854775807 : Int64))])) t → Steps p.tables e below (s₁.setTop (entryFrame m #[(.ref a1), (.ref a2)] 2)) t := fun t k => J7 t (st8 t k)
  have J10 : ∀ t, Steps p.tables e below (T8.setTop (mkF m 27 #[.val (.ref a1), .val (.ref a2)] [(.ref a1), (.long (9223372036854775807 : Int64))])) t → Steps p.tables e below (s₁.setTop (entryFrame m #[(.ref a1), (.ref a2)] 2)) t := fun t k => J9 t (by
      show Steps p.tables e below (T8.setTop (mkF m 26 #[.val (.ref a1), .val (.ref a2)] [(.long (9223372036854775807 : Int64))])) _
      refine XS.aloadN X8.here hx rfl (hb hby d16_26) rfl rfl ?_
      exact k)
  obtain ⟨T11, X11, e11, st11⟩ := getF X8 hx hZ hown (host := "") (Or.inl (hw _ (List.mem_of_getElem? (i := 121) rfl))) Via.refl e8 F_scale_a1 (g := (mkF m 27 #[.val (.ref a1), .val (.ref a2)] [(.ref a1), (.long (9223372036854775807 : Int64))])) rfl rfl (hb hby d16_27)
  have J12 : ∀ t, Steps p.tables e below (T11.setTop (mkF m 30 #[.val (.ref a1), .val (.ref a2)] [(.int (2 : Int32)), (.long (9223372036854775807 : Int64))])) t → Steps p.tables e below (s₁.setTop (entryFrame m #[(.ref a1), (.ref a2)] 2)) t := fun t k => J10 t (st11 t k)
  have J13 : ∀ t, Steps p.tables e below (T11.setTop (mkF m 31 #[.val (.ref a1), .val (.ref a2)] [(.ref a2), (.int (2 : Int32)), (.long (9223372036854775807 : Int64))])) t → Steps p.tables e below (s₁.setTop (entryFrame m #[(.ref a1), (.ref a2)] 2)) t := fun t k => J12 t (by
      show Steps p.tables e below (T11.setTop (mkF m 30 #[.val (.ref a1), .val (.ref a2)] [(.int (2 : Int32)), (.long (9223372036854775807 : Int64))])) _
      refine XS.aloadN X11.here hx rfl (hb hby d16_30) rfl rfl ?_
      exact k)
  obtain ⟨T14, X14, e14, st14⟩ := getF X11 hx hZ hown (host := "") (Or.inl (hw _ (List.mem_of_getElem? (i := 125) rfl))) Via.refl e11 F_intCompact_a2 (g := (mkF m 31 #[.val (.ref a1), .val (.ref a2)] [(.ref a2), (.int (2 : Int32)), (.long (9223372036854775807 : Int64))])) rfl rfl (hb hby d16_31)
  have J15 : ∀ t, Steps p.tables e below (T14.setTop (mkF m 34 #[.val (.ref a1), .val (.ref a2)] [(.long (1 : Int64)), (.int (2 : Int32)), (.long (9223372036854775807 : Int64))])) t → Steps p.tables e below (s₁.setTop (entryFrame m #[(.ref a1), (.ref a2)] 2)) t := fun t k => J13 t (st14 t k)
  have J16 : ∀ t, Steps p.tables e below (T14.setTop (mkF m 35 #[.val (.ref a1), .val (.ref a2)] [(.ref a2), (.long (1 : Int64)), (.int (2 : Int32)), (.long (9223372036854775807 : Int64))])) t → Steps p.tables e below (s₁.setTop (entryFrame m #[(.ref a1), (.ref a2)] 2)) t := fun t k => J15 t (by
      show Steps p.tables e below (T14.setTop (mkF m 34 #[.val (.ref a1), .val (.ref a2)] [(.long (1 : Int64)), (.int (2 : Int32)), (.long (9223372036854775807 : Int64))])) _
      refine XS.aloadN X14.here hx rfl (hb hby d16_34) rfl rfl ?_
      exact k)
  obtain ⟨T17, X17, e17, st17⟩ := getF X14 hx hZ hown (host := "") (Or.inl (hw _ (List.mem_of_getElem? (i := 121) rfl))) Via.refl e14 F_scale_a2 (g := (mkF m 35 #[.val (.ref a1), .val (.ref a2)] [(.ref a2), (.long (1 : Int64)), (.int (2 : Int32)), (.long (9223372036854775807 : Int64))])) rfl rfl (hb hby d16_35)
  have J18 : ∀ t, Steps p.tables e below (T17.setTop (mkF m 38 #[.val (.ref a1), .val (.ref a2)] [(.int (2 : Int32)), (.long (1 : Int64)), (.int (2 : Int32)), (.long (9223372036854775807 : Int64))])) t → Steps p.tables e below (s₁.setTop (entryFrame m #[(.ref a1), (.ref a2)] 2)) t := fun t k => J16 t (st17 t k)
  obtain ⟨_, _, ⟨T19, L19, k19, n19⟩, -, X19, ⟨Lc19, hQ19, l19, y19, z19⟩, st19⟩ := Jvm.LawKit.callS X17 hx (y := (⟨"java/math/BigDecimal", "add", "(JIJI)Ljava/math/BigDecimal;"⟩ : MethodName)) hown (mvT hZ (hw _ (List.mem_of_getElem? (i := 134) rfl))) (mvT hZ (hw _ (List.mem_of_getElem? (i := 135) rfl))) (mvT hZ (hw _ (List.mem_of_getElem? (i := 105) rfl))) (mvT hZ (hw _ (List.mem_of_getElem? (i := 136) rfl))) (by decide) (backOf (W := 0) (rm17 l Z a0 hw []  h0 n0 Z0 (by assumption)) hZ (hw _ (List.mem_of_getElem? (i := 136) rfl)) (hw _ (List.mem_of_getElem? (i := 105) rfl)) (by decide) (by decide)) (g := (mkF m 38 #[.val (.ref a1), .val (.ref a2)] [(.int (2 : Int32)), (.long (1 : Int64)), (.int (2 : Int32)), (.long (9223372036854775807 : Int64))])) rfl (by rw [hml]; rfl) (argsL := [(.long (9223372036854775807 : Int64)), (.int (2 : Int32)), (.long (1 : Int64)), (.int (2 : Int32))]) (rest := []) (lenOf pd_15 rfl) rfl (by show 2 * 0 + _ ≤ _; exact Nat.le_of_eq rfl) (hb hby d16_38) (fun _ _ => ⟨rfl, e17, (by decide : 0 + 5 ≤ _), (by decide : 0 + 21 ≤ _)⟩)
  dsimp only [Pt.U, Pt.locs, Pt.cells, Pt.slots] at X19 l19 y19 z19 st19 hQ19
  subst y19 z19
  obtain ⟨bd_19, bi_19, mg_19, mcl_19, rfl, Nq19, K19, p19_1, p19_2, p19_3, p19_4, p19_5, p19_6, p19_7, p19_8, p19_9, p19_10, p19_11, p19_12, p19_13, p19_14, p19_15, p19_16, p19_17, p19_18, p19_19⟩ := hQ19
  have N20 : Fr n0 L19 := by rw [l19]; exact Fr.app N0 Nq19
  have J21 : ∀ t, Steps p.tables e below (T19.setTop (mkF m 41 #[.val (.ref a1), .val (.ref a2)] [(.ref bd_19)])) t → Steps p.tables e below (s₁.setTop (entryFrame m #[(.ref a1), (.ref a2)] 2)) t := fun t k => J18 t (st19 t k)
  have Z22 : n0 ≤ T19.heap.size := Nat.le_trans Z0 K19.1
  have KK23 : Keep h0 T19.heap [] := (Keep.refl h0 []).trans K19 all0
  obtain ⟨fs, hr, hrun, hended, hW, hsame⟩ := X19.leave (v := some (.ref bd_19)) (fun h => by rw [Bd.returns] at h; cases h)
  refine ⟨_, _, J21 _ ?_, hrun, hended, _, _, rfl, ?_, ⟨_, rfl⟩, hW, hsame.mono (by decide) (by decide)⟩
  · show Steps p.tables e below (T19.setTop (mkF m 41 #[.val (.ref a1), .val (.ref a2)] [(.ref bd_19)])) _
    jvm_step X19.here [X19.here.top, hx, (hb hby d16_41), X19.method', Bd.returns, Value.isRef, FieldType.isReference]
    first | (intro acts; rw [hr _ acts rfl rfl rfl]) | rw [hr _ _ rfl rfl rfl]
    exact Steps.refl _
  · show Q16 Z a1 a2 h0 n0 _ T19.heap _
    exact ⟨bd_19, bi_19, mg_19, mcl_19, rfl, N20, KK23, p19_1, p19_2, p19_3, p19_4, p19_5, p19_6, p19_7, p19_8, p19_9, p19_10, p19_11, p19_12, (Nat.le_trans (Keep.refl h0 []).1 p19_13), (Nat.le_trans (Keep.refl h0 []).1 p19_14), (Nat.le_trans (Keep.refl h0 []).1 p19_15), p19_16, p19_17, p19_18, p19_19⟩
theorem d31_0 : decode jdk_17_method_59_code 0 = .ok (.aload_n 0, 1) := by decide +kernel
theorem d31_1 : decode jdk_17_method_59_code 1 = .ok (.getfield 17, 3) := by decide +kernel
theorem d31_4 : decode jdk_17_method_59_code 4 = .ok (.ireturn, 1) := by decide +kernel
theorem pn_31 : plainName "java/math/BigDecimal" = true := by first | (simp [plainName, overriddenIn]; done) | decide +kernel
theorem ef_31_x (m : MethodId) (x0 : Addr) : entryFrame m #[(.ref x0)] 1 = mkF m 0 #[.val (.ref x0)] [] := by first | (simp [entryFrame, mkF, argsToLocals, Value.category]; done) | rfl
def Q31 (Z : State) (a1 : Addr) (w : Int32) (h0 : Heap) (n0 : Nat) (v : Option Value) (h : Heap) (L : List Loc) : Prop := v = some (.int w) ∧ Fr n0 L ∧ h = h0
set_option maxRecDepth 65536 in
set_option maxHeartbeats 40000000 in
theorem rm31 (l : Launch) (Z : State) (a0 : Array Value) (hw : ∀ d ∈ tables_1, d.before a0 Z = true) (ws : List Jvm.Cond) (a1 : Addr) (w : Int32) (h0 : Heap) (n0 : Nat) (Z0 : n0 ≤ h0.size) (F_scale_a1 : Fld Z h0 a1 "java/math/BigDecimal" "scale" "I" (.int w)) :
    MetFree l (⟨"java/math/BigDecimal", "scale", "()I"⟩ : MethodName) (head1 (Jvm.Cond.code (⟨"java/math/BigDecimal", "scale", "()I"⟩ : MethodName) jdk_17_method_59_code 1 (some .int) :: ws) ({ frames := 0, cells := 0, slots := 0, locals := 0 } : Room)) (fun a U => a = #[(.ref a1)] ∧ Z.Warmed39 U.vm ∧ U.heap = h0) (fun _ _ _ _ _ => True) (fun _ U o U' => ∃ v L, o = .returned v ∧ Q31 Z a1 w h0 n0 v U'.heap L ∧ FrameEnd U o U' L ({ frames := 0, cells := 0, slots := 0, locals := 0 } : Room).cells ({ frames := 0, cells := 0, slots := 0, locals := 0 } : Room).slots) := by
  refine MetFree.of_bodySF (plainFor_of_name pn_31) hisR ?_
  intro p e s m args below meth c s₁ Bd hml0 hP hK
  obtain ⟨rfl, hZ, hh⟩ := hP
  have hx := Bd.exec
  have hby := Bd.bytes
  have hml : c.maxLocals = 1 := hml0
  have hown : s.vm.findClass "java/math/BigDecimal" = some m.cls := findClass_of_methodNamed Bd.named
  have hnm := (name_of_methodNamed Bd.named Bd.method).1
  have X0 : Stand p l e ({ frames := 0, cells := 0, slots := 0, locals := 0 } : Room) s m #[(.ref a1)] below meth c s₁ [] 0 0 := Stand.of_body Bd
  have e0 : s₁.heap = h0 := by rw [← hh, Bd.state]; rfl
  have N0 := Fr.nil n0
  have pre0 : ∀ t, Steps p.tables e below (s₁.setTop (mkF m 0 #[.val (.ref a1)] [])) t → Steps p.tables e below (s₁.setTop (entryFrame m #[(.ref a1)] 1)) t := fun t k => castTop (ef_31_x m a1) k
  have J1 : ∀ t, Steps p.tables e below (s₁.setTop (mkF m 1 #[.val (.ref a1)] [(.ref a1)])) t → Steps p.tables e below (s₁.setTop (entryFrame m #[(.ref a1)] 1)) t := fun t k => pre0 t (by
      show Steps p.tables e below (s₁.setTop (mkF m 0 #[.val (.ref a1)] [])) _
      refine XS.aloadN X0.here hx rfl (hb hby d31_0) rfl rfl ?_
      exact k)
  obtain ⟨T2, X2, e2, st2⟩ := getF X0 hx hZ hown (host := "") (Or.inl (hw _ (List.mem_of_getElem? (i := 121) rfl))) Via.refl e0 F_scale_a1 (g := (mkF m 1 #[.val (.ref a1)] [(.ref a1)])) rfl rfl (hb hby d31_1)
  have J3 : ∀ t, Steps p.tables e below (T2.setTop (mkF m 4 #[.val (.ref a1)] [(.int w)])) t → Steps p.tables e below (s₁.setTop (entryFrame m #[(.ref a1)] 1)) t := fun t k => J1 t (st2 t k)
  obtain ⟨fs, hr, hrun, hended, hW, hsame⟩ := X2.leave (v := some (.int w)) (fun h => by rw [Bd.returns] at h; cases h)
  refine ⟨_, _, J3 _ ?_, hrun, hended, _, _, rfl, ?_, ⟨_, rfl⟩, hW, hsame.mono (by decide) (by decide)⟩
  · show Steps p.tables e below (T2.setTop (mkF m 4 #[.val (.ref a1)] [(.int w)])) _
    exact retI X2 hx Bd.returns (hb hby d31_4) hr
  · show Q31 Z a1 w h0 n0 _ T2.heap _
    rw [e2]
    exact ⟨rfl, N0, rfl⟩
theorem d33_0 : decode jdk_17_method_99_code 0 = .ok (.aload_n 0, 1) := by decide +kernel
theorem d33_1 : decode jdk_17_method_99_code 1 = .ok (.getfield 28, 3) := by decide +kernel
theorem d33_4 : decode jdk_17_method_99_code 4 = .ok (.ifnonnull 11, 3) := by decide +kernel
theorem d33_15 : decode jdk_17_method_99_code 15 = .ok (.aload_n 0, 1) := by decide +kernel
theorem d33_16 : decode jdk_17_method_99_code 16 = .ok (.getfield 28, 3) := by decide +kernel
theorem d33_19 : decode jdk_17_method_99_code 19 = .ok (.areturn, 1) := by decide +kernel
theorem pn_33 : plainName "java/math/BigDecimal" = true := by first | (simp [plainName, overriddenIn]; done) | decide +kernel
theorem ef_33_x (m : MethodId) (x0 : Addr) : entryFrame m #[(.ref x0)] 1 = mkF m 0 #[.val (.ref x0)] [] := by first | (simp [entryFrame, mkF, argsToLocals, Value.category]; done) | rfl
def Q33 (Z : State) (a1 : Addr) (bi : Addr) (h0 : Heap) (n0 : Nat) (v : Option Value) (h : Heap) (L : List Loc) : Prop := v = some (.ref bi) ∧ Fr n0 L ∧ h = h0
set_option maxRecDepth 65536 in
set_option maxHeartbeats 40000000 in
theorem rm33 (l : Launch) (Z : State) (a0 : Array Value) (hw : ∀ d ∈ tables_1, d.before a0 Z = true) (ws : List Jvm.Cond) (a1 : Addr) (bi : Addr) (h0 : Heap) (n0 : Nat) (Z0 : n0 ≤ h0.size) (F_intVal_a1 : Fld Z h0 a1 "java/math/BigDecimal" "intVal" "Ljava/math/BigInteger;" (.ref bi)) :
    MetFree l (⟨"java/math/BigDecimal", "inflated", "()Ljava/math/BigInteger;"⟩ : MethodName) (head1 (Jvm.Cond.code (⟨"java/math/BigDecimal", "inflated", "()Ljava/math/BigInteger;"⟩ : MethodName) jdk_17_method_99_code 1 (some (.object "java/math/BigInteger")) :: ws) ({ frames := 0, cells := 0, slots := 0, locals := 0 } : Room)) (fun a U => a = #[(.ref a1)] ∧ Z.Warmed39 U.vm ∧ U.heap = h0) (fun _ _ _ _ _ => True) (fun _ U o U' => ∃ v L, o = .returned v ∧ Q33 Z a1 bi h0 n0 v U'.heap L ∧ FrameEnd U o U' L ({ frames := 0, cells := 0, slots := 0, locals := 0 } : Room).cells ({ frames := 0, cells := 0, slots := 0, locals := 0 } : Room).slots) := by
  refine MetFree.of_bodySF (plainFor_of_name pn_33) hisR ?_
  intro p e s m args below meth c s₁ Bd hml0 hP hK
  obtain ⟨rfl, hZ, hh⟩ := hP
  have hx := Bd.exec
  have hby := Bd.bytes
  have hml : c.maxLocals = 1 := hml0
  have hown : s.vm.findClass "java/math/BigDecimal" = some m.cls := findClass_of_methodNamed Bd.named
  have hnm := (name_of_methodNamed Bd.named Bd.method).1
  have X0 : Stand p l e ({ frames := 0, cells := 0, slots := 0, locals := 0 } : Room) s m #[(.ref a1)] below meth c s₁ [] 0 0 := Stand.of_body Bd
  have e0 : s₁.heap = h0 := by rw [← hh, Bd.state]; rfl
  have N0 := Fr.nil n0
  have pre0 : ∀ t, Steps p.tables e below (s₁.setTop (mkF m 0 #[.val (.ref a1)] [])) t → Steps p.tables e below (s₁.setTop (entryFrame m #[(.ref a1)] 1)) t := fun t k => castTop (ef_33_x m a1) k
  have J1 : ∀ t, Steps p.tables e below (s₁.setTop (mkF m 1 #[.val (.ref a1)] [(.ref a1)])) t → Steps p.tables e below (s₁.setTop (entryFrame m #[(.ref a1)] 1)) t := fun t k => pre0 t (by
      show Steps p.tables e below (s₁.setTop (mkF m 0 #[.val (.ref a1)] [])) _
      refine XS.aloadN X0.here hx rfl (hb hby d33_0) rfl rfl ?_
      exact k)
  obtain ⟨T2, X2, e2, st2⟩ := getF X0 hx hZ hown (host := "") (Or.inl (hw _ (List.mem_of_getElem? (i := 127) rfl))) Via.refl e0 F_intVal_a1 (g := (mkF m 1 #[.val (.ref a1)] [(.ref a1)])) rfl rfl (hb hby d33_1)
  have J3 : ∀ t, Steps p.tables e below (T2.setTop (mkF m 4 #[.val (.ref a1)] [(.ref bi)])) t → Steps p.tables e below (s₁.setTop (entryFrame m #[(.ref a1)] 1)) t := fun t k => J1 t (st2 t k)
  have J4 : ∀ t, Steps p.tables e below (T2.setTop (mkF m 16 #[.val (.ref a1)] [(.ref a1)])) t → Steps p.tables e below (s₁.setTop (entryFrame m #[(.ref a1)] 1)) t := fun t k => J3 t (by
      show Steps p.tables e below (T2.setTop (mkF m 4 #[.val (.ref a1)] [(.ref bi)])) _
      refine XS.ifnonnullYes X2.here hx rfl (pc0 := 4) (pc' := 15) rfl (hb hby d33_4) rfl (by decide) (by decide) ?_
      show Steps p.tables e below (T2.setTop (mkF m 15 #[.val (.ref a1)] [])) _
      refine XS.aloadN X2.here hx rfl (hb hby d33_15) rfl rfl ?_
      exact k)
  obtain ⟨T5, X5, e5, st5⟩ := getF X2 hx hZ hown (host := "") (Or.inl (hw _ (List.mem_of_getElem? (i := 127) rfl))) Via.refl e2 F_intVal_a1 (g := (mkF m 16 #[.val (.ref a1)] [(.ref a1)])) rfl rfl (hb hby d33_16)
  have J6 : ∀ t, Steps p.tables e below (T5.setTop (mkF m 19 #[.val (.ref a1)] [(.ref bi)])) t → Steps p.tables e below (s₁.setTop (entryFrame m #[(.ref a1)] 1)) t := fun t k => J4 t (st5 t k)
  obtain ⟨fs, hr, hrun, hended, hW, hsame⟩ := X5.leave (v := some (.ref bi)) (fun h => by rw [Bd.returns] at h; cases h)
  refine ⟨_, _, J6 _ ?_, hrun, hended, _, _, rfl, ?_, ⟨_, rfl⟩, hW, hsame.mono (by decide) (by decide)⟩
  · show Steps p.tables e below (T5.setTop (mkF m 19 #[.val (.ref a1)] [(.ref bi)])) _
    jvm_step X5.here [X5.here.top, hx, (hb hby d33_19), X5.method', Bd.returns, Value.isRef, FieldType.isReference]
    first | (intro acts; rw [hr _ acts rfl rfl rfl]) | rw [hr _ _ rfl rfl rfl]
    exact Steps.refl _
  · show Q33 Z a1 bi h0 n0 _ T5.heap _
    rw [e5]
    exact ⟨rfl, N0, rfl⟩
theorem d32_0 : decode jdk_17_method_61_code 0 = .ok (.aload_n 0, 1) := by decide +kernel
theorem d32_1 : decode jdk_17_method_61_code 1 = .ok (.invokevirtual 302, 3) := by decide +kernel
theorem pd_16 : parseMethodDescriptor "()Ljava/math/BigInteger;" = some ⟨[], some (.object "java/math/BigInteger")⟩ := by decide +kernel
theorem d32_4 : decode jdk_17_method_61_code 4 = .ok (.areturn, 1) := by decide +kernel
theorem pn_32 : plainName "java/math/BigDecimal" = true := by first | (simp [plainName, overriddenIn]; done) | decide +kernel
theorem ef_32_x (m : MethodId) (x0 : Addr) : entryFrame m #[(.ref x0)] 1 = mkF m 0 #[.val (.ref x0)] [] := by first | (simp [entryFrame, mkF, argsToLocals, Value.category]; done) | rfl
def Q32 (Z : State) (a1 : Addr) (bi : Addr) (h0 : Heap) (n0 : Nat) (v : Option Value) (h : Heap) (L : List Loc) : Prop := v = some (.ref bi) ∧ Fr n0 L ∧ h = h0
set_option maxRecDepth 65536 in
set_option maxHeartbeats 40000000 in
theorem rm32 (l : Launch) (Z : State) (a0 : Array Value) (hw : ∀ d ∈ tables_1, d.before a0 Z = true) (ws : List Jvm.Cond) (a1 : Addr) (bi : Addr) (h0 : Heap) (n0 : Nat) (Z0 : n0 ≤ h0.size) (E_a1 : Exa Z h0 a1 "java/math/BigDecimal") (F_intVal_a1 : Fld Z h0 a1 "java/math/BigDecimal" "intVal" "Ljava/math/BigInteger;" (.ref bi)) :
    MetFree l (⟨"java/math/BigDecimal", "unscaledValue", "()Ljava/math/BigInteger;"⟩ : MethodName) (head1 (Jvm.Cond.code (⟨"java/math/BigDecimal", "unscaledValue", "()Ljava/math/BigInteger;"⟩ : MethodName) jdk_17_method_61_code 1 (some (.object "java/math/BigInteger")) :: ws) ({ frames := 1, cells := 0, slots := 0, locals := 12 } : Room)) (fun a U => a = #[(.ref a1)] ∧ Z.Warmed39 U.vm ∧ U.heap = h0) (fun _ _ _ _ _ => True) (fun _ U o U' => ∃ v L, o = .returned v ∧ Q32 Z a1 bi h0 n0 v U'.heap L ∧ FrameEnd U o U' L ({ frames := 1, cells := 0, slots := 0, locals := 12 } : Room).cells ({ frames := 1, cells := 0, slots := 0, locals := 12 } : Room).slots) := by
  refine MetFree.of_bodySF (plainFor_of_name pn_32) hisR ?_
  intro p e s m args below meth c s₁ Bd hml0 hP hK
  obtain ⟨rfl, hZ, hh⟩ := hP
  have hx := Bd.exec
  have hby := Bd.bytes
  have hml : c.maxLocals = 1 := hml0
  have hown : s.vm.findClass "java/math/BigDecimal" = some m.cls := findClass_of_methodNamed Bd.named
  have hnm := (name_of_methodNamed Bd.named Bd.method).1
  have X0 : Stand p l e ({ frames := 1, cells := 0, slots := 0, locals := 12 } : Room) s m #[(.ref a1)] below meth c s₁ [] 0 0 := Stand.of_body Bd
  have e0 : s₁.heap = h0 := by rw [← hh, Bd.state]; rfl
  have N0 := Fr.nil n0
  have pre0 : ∀ t, Steps p.tables e below (s₁.setTop (mkF m 0 #[.val (.ref a1)] [])) t → Steps p.tables e below (s₁.setTop (entryFrame m #[(.ref a1)] 1)) t := fun t k => castTop (ef_32_x m a1) k
  have J1 : ∀ t, Steps p.tables e below (s₁.setTop (mkF m 1 #[.val (.ref a1)] [(.ref a1)])) t → Steps p.tables e below (s₁.setTop (entryFrame m #[(.ref a1)] 1)) t := fun t k => pre0 t (by
      show Steps p.tables e below (s₁.setTop (mkF m 0 #[.val (.ref a1)] [])) _
      refine XS.aloadN X0.here hx rfl (hb hby d32_0) rfl rfl ?_
      exact k)
  obtain ⟨cq2, q2, q2'⟩ := E_a1.cell
  obtain ⟨_, _, ⟨T2, L2, k2, n2⟩, -, X2, ⟨Lc2, hQ2, l2, y2, z2⟩, st2⟩ := X0.privateBack hx (y := (⟨"java/math/BigDecimal", "inflated", "()Ljava/math/BigInteger;"⟩ : MethodName)) hown (mvT hZ (hw _ (List.mem_of_getElem? (i := 212) rfl))) (mvT hZ (hw _ (List.mem_of_getElem? (i := 213) rfl))) (mvT hZ (hw _ (List.mem_of_getElem? (i := 215) rfl))) (Cond.privateMethod_at (mvP hZ (hw _ (List.mem_of_getElem? (i := 214) rfl)) (args := #[]))) (mvT hZ (hw _ (List.mem_of_getElem? (i := 216) rfl))) (by decide) (backOf (W := 0) (rm33 l Z a0 hw [] a1 bi h0 n0 Z0 F_intVal_a1) hZ (hw _ (List.mem_of_getElem? (i := 216) rfl)) (hw _ (List.mem_of_getElem? (i := 105) rfl)) (by decide) (by decide)) (g := (mkF m 1 #[.val (.ref a1)] [(.ref a1)])) rfl (by rw [hml]; rfl) (Steps.refl _) (a := a1) (by rw [e0]; exact q2) q2' (argsL := []) (rest := []) (lenOf pd_16 rfl) rfl (by show 2 * 0 + _ ≤ _; exact Nat.le_of_eq rfl) (hb hby d32_1) (fun _ _ => ⟨rfl, e0, (by decide : 0 + 0 ≤ _), (by decide : 0 + 0 ≤ _)⟩)
  dsimp only [Pt.U, Pt.locs, Pt.cells, Pt.slots] at X2 l2 y2 z2 st2 hQ2
  subst y2 z2
  obtain ⟨rfl, Nq2, e2⟩ := hQ2
  have N3 : Fr n0 L2 := by rw [l2]; exact Fr.app N0 Nq2
  have J4 : ∀ t, Steps p.tables e below (T2.setTop (mkF m 4 #[.val (.ref a1)] [(.ref bi)])) t → Steps p.tables e below (s₁.setTop (entryFrame m #[(.ref a1)] 1)) t := fun t k => J1 t (st2.trans k)
  obtain ⟨fs, hr, hrun, hended, hW, hsame⟩ := X2.leave (v := some (.ref bi)) (fun h => by rw [Bd.returns] at h; cases h)
  refine ⟨_, _, J4 _ ?_, hrun, hended, _, _, rfl, ?_, ⟨_, rfl⟩, hW, hsame.mono (by decide) (by decide)⟩
  · show Steps p.tables e below (T2.setTop (mkF m 4 #[.val (.ref a1)] [(.ref bi)])) _
    jvm_step X2.here [X2.here.top, hx, (hb hby d32_4), X2.method', Bd.returns, Value.isRef, FieldType.isReference]
    first | (intro acts; rw [hr _ acts rfl rfl rfl]) | rw [hr _ _ rfl rfl rfl]
    exact Steps.refl _
  · show Q32 Z a1 bi h0 n0 _ T2.heap _
    rw [e2]
    exact ⟨rfl, N3, rfl⟩
theorem d36_0 : decode jdk_33_method_47_code 0 = .ok (.iload_n 0, 1) := by decide +kernel
theorem d36_1 : decode jdk_33_method_47_code 1 = .ok (.ifCond .gt 14, 3) := by decide +kernel
theorem d36_4 : decode jdk_33_method_47_code 4 = .ok (.iload_n 0, 1) := by decide +kernel
theorem d36_5 : decode jdk_33_method_47_code 5 = .ok (.ifCond .ne 8, 3) := by decide +kernel
theorem d36_13 : decode jdk_33_method_47_code 13 = .ok (.iconst 0, 1) := by decide +kernel
theorem d36_14 : decode jdk_33_method_47_code 14 = .ok (.ireturn, 1) := by decide +kernel
theorem pn_36 : plainName "java/lang/Integer" = true := by first | (simp [plainName, overriddenIn]; done) | decide +kernel
theorem ef_36_x (m : MethodId) (x0 : Int32) : entryFrame m #[(.int x0)] 2 = mkF m 0 #[.val (.int x0), .unset] [] := by first | (simp [entryFrame, mkF, argsToLocals, Value.category]; done) | rfl
def Q36 (Z : State)  (h0 : Heap) (n0 : Nat) (v : Option Value) (h : Heap) (L : List Loc) : Prop := v = some (.int (0 : Int32)) ∧ Fr n0 L ∧ h = h0
set_option maxRecDepth 65536 in
set_option maxHeartbeats 40000000 in
theorem rm36 (l : Launch) (Z : State) (a0 : Array Value) (hw : ∀ d ∈ tables_1, d.before a0 Z = true) (ws : List Jvm.Cond)  (h0 : Heap) (n0 : Nat) (Z0 : n0 ≤ h0.size) :
    MetFree l (⟨"java/lang/Integer", "numberOfLeadingZeros", "(I)I"⟩ : MethodName) (head1 (Jvm.Cond.code (⟨"java/lang/Integer", "numberOfLeadingZeros", "(I)I"⟩ : MethodName) jdk_33_method_47_code 2 (some .int) :: ws) ({ frames := 0, cells := 0, slots := 0, locals := 0 } : Room)) (fun a U => a = #[(.int (-2147483648 : Int32))] ∧ Z.Warmed39 U.vm ∧ U.heap = h0) (fun _ _ _ _ _ => True) (fun _ U o U' => ∃ v L, o = .returned v ∧ Q36 Z  h0 n0 v U'.heap L ∧ FrameEnd U o U' L ({ frames := 0, cells := 0, slots := 0, locals := 0 } : Room).cells ({ frames := 0, cells := 0, slots := 0, locals := 0 } : Room).slots) := by
  refine MetFree.of_bodySF (plainFor_of_name pn_36) hisR ?_
  intro p e s m args below meth c s₁ Bd hml0 hP hK
  obtain ⟨rfl, hZ, hh⟩ := hP
  have hx := Bd.exec
  have hby := Bd.bytes
  have hml : c.maxLocals = 2 := hml0
  have hown : s.vm.findClass "java/lang/Integer" = some m.cls := findClass_of_methodNamed Bd.named
  have hnm := (name_of_methodNamed Bd.named Bd.method).1
  have X0 : Stand p l e ({ frames := 0, cells := 0, slots := 0, locals := 0 } : Room) s m #[(.int (-2147483648 : Int32))] below meth c s₁ [] 0 0 := Stand.of_body Bd
  have e0 : s₁.heap = h0 := by rw [← hh, Bd.state]; rfl
  have N0 := Fr.nil n0
  have pre0 : ∀ t, Steps p.tables e below (s₁.setTop (mkF m 0 #[.val (.int (-2147483648 : Int32)), .unset] [])) t → Steps p.tables e below (s₁.setTop (entryFrame m #[(.int (-2147483648 : Int32))] 2)) t := fun t k => castTop (ef_36_x m (-2147483648 : Int32)) k
  have J1 : ∀ t, Steps p.tables e below (s₁.setTop (mkF m 14 #[.val (.int (-2147483648 : Int32)), .unset] [(.int (0 : Int32))])) t → Steps p.tables e below (s₁.setTop (entryFrame m #[(.int (-2147483648 : Int32))] 2)) t := fun t k => pre0 t (by
      show Steps p.tables e below (s₁.setTop (mkF m 0 #[.val (.int (-2147483648 : Int32)), .unset] [])) _
      refine XS.iloadN X0.here hx rfl (hb hby d36_0) rfl ?_
      show Steps p.tables e below (s₁.setTop (mkF m 1 #[.val (.int (-2147483648 : Int32)), .unset] [(.int (-2147483648 : Int32))])) _
      refine XS.ifNo X0.here hx rfl (hb hby d36_1) rfl ((if0 _ _).trans (flt (by decide)).2.2.1) ?_
      show Steps p.tables e below (s₁.setTop (mkF m 4 #[.val (.int (-2147483648 : Int32)), .unset] [])) _
      refine XS.iloadN X0.here hx rfl (hb hby d36_4) rfl ?_
      show Steps p.tables e below (s₁.setTop (mkF m 5 #[.val (.int (-2147483648 : Int32)), .unset] [(.int (-2147483648 : Int32))])) _
      refine XS.ifYes X0.here hx rfl (pc0 := 5) (pc' := 13) rfl (hb hby d36_5) rfl ((if0 _ _).trans (feq (by decide)).2) (by decide) (by decide) ?_
      show Steps p.tables e below (s₁.setTop (mkF m 13 #[.val (.int (-2147483648 : Int32)), .unset] [])) _
      refine XS.iconst X0.here hx rfl (hb hby d36_13) ?_
      exact k)
  obtain ⟨fs, hr, hrun, hended, hW, hsame⟩ := X0.leave (v := some (.int (0 : Int32))) (fun h => by rw [Bd.returns] at h; cases h)
  refine ⟨_, _, J1 _ ?_, hrun, hended, _, _, rfl, ?_, ⟨_, rfl⟩, hW, hsame.mono (by decide) (by decide)⟩
  · show Steps p.tables e below (s₁.setTop (mkF m 14 #[.val (.int (-2147483648 : Int32)), .unset] [(.int (0 : Int32))])) _
    exact retI X0 hx Bd.returns (hb hby d36_14) hr
  · show Q36 Z  h0 n0 _ s₁.heap _
    rw [e0]
    exact ⟨rfl, N0, rfl⟩
theorem d35_0 : decode jdk_2097_method_74_code 0 = .ok (.bipush 32, 2) := by decide +kernel
theorem d35_2 : decode jdk_2097_method_74_code 2 = .ok (.iload_n 0, 1) := by decide +kernel
theorem d35_3 : decode jdk_2097_method_74_code 3 = .ok (.invokestatic 602, 3) := by decide +kernel
theorem pd_17 : parseMethodDescriptor "(I)I" = some ⟨[.int], some .int⟩ := by decide +kernel
theorem d35_6 : decode jdk_2097_method_74_code 6 = .ok (.isub, 1) := by decide +kernel
theorem d35_7 : decode jdk_2097_method_74_code 7 = .ok (.ireturn, 1) := by decide +kernel
theorem pn_35 : plainName "java/math/BigInteger" = true := by first | (simp [plainName, overriddenIn]; done) | decide +kernel
theorem ef_35_x (m : MethodId) (x0 : Int32) : entryFrame m #[(.int x0)] 1 = mkF m 0 #[.val (.int x0)] [] := by first | (simp [entryFrame, mkF, argsToLocals, Value.category]; done) | rfl
def Q35 (Z : State)  (h0 : Heap) (n0 : Nat) (v : Option Value) (h : Heap) (L : List Loc) : Prop := v = some (.int (32 : Int32)) ∧ Fr n0 L ∧ h = h0
set_option maxRecDepth 65536 in
set_option maxHeartbeats 40000000 in
theorem rm35 (l : Launch) (Z : State) (a0 : Array Value) (hw : ∀ d ∈ tables_1, d.before a0 Z = true) (ws : List Jvm.Cond)  (h0 : Heap) (n0 : Nat) (Z0 : n0 ≤ h0.size) :
    MetFree l (⟨"java/math/BigInteger", "bitLengthForInt", "(I)I"⟩ : MethodName) (head1 (Jvm.Cond.code (⟨"java/math/BigInteger", "bitLengthForInt", "(I)I"⟩ : MethodName) jdk_2097_method_74_code 1 (some .int) :: ws) ({ frames := 1, cells := 0, slots := 0, locals := 14 } : Room)) (fun a U => a = #[(.int (-2147483648 : Int32))] ∧ Z.Warmed39 U.vm ∧ U.heap = h0) (fun _ _ _ _ _ => True) (fun _ U o U' => ∃ v L, o = .returned v ∧ Q35 Z  h0 n0 v U'.heap L ∧ FrameEnd U o U' L ({ frames := 1, cells := 0, slots := 0, locals := 14 } : Room).cells ({ frames := 1, cells := 0, slots := 0, locals := 14 } : Room).slots) := by
  refine MetFree.of_bodySF (plainFor_of_name pn_35) hisR ?_
  intro p e s m args below meth c s₁ Bd hml0 hP hK
  obtain ⟨rfl, hZ, hh⟩ := hP
  have hx := Bd.exec
  have hby := Bd.bytes
  have hml : c.maxLocals = 1 := hml0
  have hown : s.vm.findClass "java/math/BigInteger" = some m.cls := findClass_of_methodNamed Bd.named
  have hnm := (name_of_methodNamed Bd.named Bd.method).1
  have X0 : Stand p l e ({ frames := 1, cells := 0, slots := 0, locals := 14 } : Room) s m #[(.int (-2147483648 : Int32))] below meth c s₁ [] 0 0 := Stand.of_body Bd
  have e0 : s₁.heap = h0 := by rw [← hh, Bd.state]; rfl
  have N0 := Fr.nil n0
  have pre0 : ∀ t, Steps p.tables e below (s₁.setTop (mkF m 0 #[.val (.int (-2147483648 : Int32))] [])) t → Steps p.tables e below (s₁.setTop (entryFrame m #[(.int (-2147483648 : Int32))] 1)) t := fun t k => castTop (ef_35_x m (-2147483648 : Int32)) k
  have J1 : ∀ t, Steps p.tables e below (s₁.setTop (mkF m 3 #[.val (.int (-2147483648 : Int32))] [(.int (-2147483648 : Int32)), (.int (32 : Int32))])) t → Steps p.tables e below (s₁.setTop (entryFrame m #[(.int (-2147483648 : Int32))] 1)) t := fun t k => pre0 t (by
      show Steps p.tables e below (s₁.setTop (mkF m 0 #[.val (.int (-2147483648 : Int32))] [])) _
      refine XS.bipush X0.here hx rfl (hb hby d35_0) ?_
      show Steps p.tables e below (s₁.setTop (mkF m 2 #[.val (.int (-2147483648 : Int32))] [(.int (32 : Int32))])) _
      refine XS.iloadN X0.here hx rfl (hb hby d35_2) rfl ?_
      exact k)
  obtain ⟨_, _, ⟨T2, L2, k2, n2⟩, -, X2, ⟨Lc2, hQ2, l2, y2, z2⟩, st2⟩ := Jvm.LawKit.callS X0 hx (y := (⟨"java/lang/Integer", "numberOfLeadingZeros", "(I)I"⟩ : MethodName)) hown (mvT hZ (hw _ (List.mem_of_getElem? (i := 227) rfl))) (mvT hZ (hw _ (List.mem_of_getElem? (i := 228) rfl))) (mvT hZ (hw _ (List.mem_of_getElem? (i := 229) rfl))) (mvT hZ (hw _ (List.mem_of_getElem? (i := 230) rfl))) (by decide) (backOf (W := 1) (rm36 l Z a0 hw []  h0 n0 Z0 ) hZ (hw _ (List.mem_of_getElem? (i := 230) rfl)) (hw _ (List.mem_of_getElem? (i := 229) rfl)) (by decide) (by decide)) (g := (mkF m 3 #[.val (.int (-2147483648 : Int32))] [(.int (-2147483648 : Int32)), (.int (32 : Int32))])) rfl (by rw [hml]; rfl) (argsL := [(.int (-2147483648 : Int32))]) (rest := [(.int (32 : Int32))]) (lenOf pd_17 rfl) rfl (by show 2 * 0 + _ ≤ _; exact Nat.le_of_eq rfl) (hb hby d35_3) (fun _ _ => ⟨rfl, e0, (by decide : 0 + 0 ≤ _), (by decide : 0 + 0 ≤ _)⟩)
  dsimp only [Pt.U, Pt.locs, Pt.cells, Pt.slots] at X2 l2 y2 z2 st2 hQ2
  subst y2 z2
  obtain ⟨rfl, Nq2, e2⟩ := hQ2
  have N3 : Fr n0 L2 := by rw [l2]; exact Fr.app N0 Nq2
  have J4 : ∀ t, Steps p.tables e below (T2.setTop (mkF m 6 #[.val (.int (-2147483648 : Int32))] [(.int (0 : Int32)), (.int (32 : Int32))])) t → Steps p.tables e below (s₁.setTop (entryFrame m #[(.int (-2147483648 : Int32))] 1)) t := fun t k => J1 t (st2 t k)
  have J5 : ∀ t, Steps p.tables e below (T2.setTop (mkF m 7 #[.val (.int (-2147483648 : Int32))] [(.int ((32 : Int32) - (0 : Int32)))])) t → Steps p.tables e below (s₁.setTop (entryFrame m #[(.int (-2147483648 : Int32))] 1)) t := fun t k => J4 t (by
      show Steps p.tables e below (T2.setTop (mkF m 6 #[.val (.int (-2147483648 : Int32))] [(.int (0 : Int32)), (.int (32 : Int32))])) _
      refine XS.isub X2.here hx rfl (hb hby d35_6) rfl ?_
      exact k)
  have J6 : ∀ t, Steps p.tables e below (T2.setTop (mkF m 7 #[.val (.int (-2147483648 : Int32))] [(.int (32 : Int32))])) t → Steps p.tables e below (s₁.setTop (entryFrame m #[(.int (-2147483648 : Int32))] 1)) t := fun t k => J5 t (by rw [(by decide : ((32 : Int32) - (0 : Int32)) = (32 : Int32))]; exact k)
  obtain ⟨fs, hr, hrun, hended, hW, hsame⟩ := X2.leave (v := some (.int (32 : Int32))) (fun h => by rw [Bd.returns] at h; cases h)
  refine ⟨_, _, J6 _ ?_, hrun, hended, _, _, rfl, ?_, ⟨_, rfl⟩, hW, hsame.mono (by decide) (by decide)⟩
  · show Steps p.tables e below (T2.setTop (mkF m 7 #[.val (.int (-2147483648 : Int32))] [(.int (32 : Int32))])) _
    exact retI X2 hx Bd.returns (hb hby d35_7) hr
  · show Q35 Z  h0 n0 _ T2.heap _
    rw [e2]
    exact ⟨rfl, N3, rfl⟩
theorem d34_0 : decode jdk_2097_method_118_code 0 = .ok (.aload_n 0, 1) := by decide +kernel
theorem d34_1 : decode jdk_2097_method_118_code 1 = .ok (.getfield 747, 3) := by decide +kernel
theorem d34_4 : decode jdk_2097_method_118_code 4 = .ok (.iconst 1, 1) := by decide +kernel
theorem d34_5 : decode jdk_2097_method_118_code 5 = .ok (.isub, 1) := by decide +kernel
theorem d34_6 : decode jdk_2097_method_118_code 6 = .ok (.istore_n 1, 1) := by decide +kernel
theorem d34_7 : decode jdk_2097_method_118_code 7 = .ok (.iload_n 1, 1) := by decide +kernel
theorem d34_8 : decode jdk_2097_method_118_code 8 = .ok (.iconst (-1), 1) := by decide +kernel
theorem d34_9 : decode jdk_2097_method_118_code 9 = .ok (.if_icmp .ne 129, 3) := by decide +kernel
theorem d34_12 : decode jdk_2097_method_118_code 12 = .ok (.aload_n 0, 1) := by decide +kernel
theorem d34_13 : decode jdk_2097_method_118_code 13 = .ok (.getfield 28, 3) := by decide +kernel
theorem d34_16 : decode jdk_2097_method_118_code 16 = .ok (.astore_n 2, 1) := by decide +kernel
theorem d34_17 : decode jdk_2097_method_118_code 17 = .ok (.aload_n 2, 1) := by decide +kernel
theorem d34_18 : decode jdk_2097_method_118_code 18 = .ok (.arraylength, 1) := by decide +kernel
theorem d34_19 : decode jdk_2097_method_118_code 19 = .ok (.istore_n 3, 1) := by decide +kernel
theorem d34_20 : decode jdk_2097_method_118_code 20 = .ok (.iload_n 3, 1) := by decide +kernel
theorem d34_21 : decode jdk_2097_method_118_code 21 = .ok (.ifCond .ne 8, 3) := by decide +kernel
theorem d34_29 : decode jdk_2097_method_118_code 29 = .ok (.iload_n 3, 1) := by decide +kernel
theorem d34_30 : decode jdk_2097_method_118_code 30 = .ok (.iconst 1, 1) := by decide +kernel
theorem d34_31 : decode jdk_2097_method_118_code 31 = .ok (.isub, 1) := by decide +kernel
theorem d34_32 : decode jdk_2097_method_118_code 32 = .ok (.iconst 5, 1) := by decide +kernel
theorem d34_33 : decode jdk_2097_method_118_code 33 = .ok (.ishl, 1) := by decide +kernel
theorem d34_34 : decode jdk_2097_method_118_code 34 = .ok (.aload_n 0, 1) := by decide +kernel
theorem d34_35 : decode jdk_2097_method_118_code 35 = .ok (.getfield 28, 3) := by decide +kernel
theorem d34_38 : decode jdk_2097_method_118_code 38 = .ok (.iconst 0, 1) := by decide +kernel
theorem d34_39 : decode jdk_2097_method_118_code 39 = .ok (.iaload, 1) := by decide +kernel
theorem d34_40 : decode jdk_2097_method_118_code 40 = .ok (.invokestatic 605, 3) := by decide +kernel
theorem d34_43 : decode jdk_2097_method_118_code 43 = .ok (.iadd, 1) := by decide +kernel
theorem d34_44 : decode jdk_2097_method_118_code 44 = .ok (.istore 4, 2) := by decide +kernel
theorem d34_46 : decode jdk_2097_method_118_code 46 = .ok (.aload_n 0, 1) := by decide +kernel
theorem d34_47 : decode jdk_2097_method_118_code 47 = .ok (.getfield 32, 3) := by decide +kernel
theorem d34_50 : decode jdk_2097_method_118_code 50 = .ok (.ifCond .ge 78, 3) := by decide +kernel
theorem d34_128 : decode jdk_2097_method_118_code 128 = .ok (.iload 4, 2) := by decide +kernel
theorem d34_130 : decode jdk_2097_method_118_code 130 = .ok (.istore_n 1, 1) := by decide +kernel
theorem d34_131 : decode jdk_2097_method_118_code 131 = .ok (.aload_n 0, 1) := by decide +kernel
theorem d34_132 : decode jdk_2097_method_118_code 132 = .ok (.iload_n 1, 1) := by decide +kernel
theorem d34_133 : decode jdk_2097_method_118_code 133 = .ok (.iconst 1, 1) := by decide +kernel
theorem d34_134 : decode jdk_2097_method_118_code 134 = .ok (.iadd, 1) := by decide +kernel
theorem d34_135 : decode jdk_2097_method_118_code 135 = .ok (.putfield 747, 3) := by decide +kernel
theorem d34_138 : decode jdk_2097_method_118_code 138 = .ok (.iload_n 1, 1) := by decide +kernel
theorem d34_139 : decode jdk_2097_method_118_code 139 = .ok (.ireturn, 1) := by decide +kernel
theorem pn_34 : plainName "java/math/BigInteger" = true := by first | (simp [plainName, overriddenIn]; done) | decide +kernel
theorem ef_34_x (m : MethodId) (x0 : Addr) : entryFrame m #[(.ref x0)] 7 = mkF m 0 #[.val (.ref x0), .unset, .unset, .unset, .unset, .unset, .unset] [] := by first | (simp [entryFrame, mkF, argsToLocals, Value.category]; done) | rfl
def Q34 (Z : State) (a1 : Addr) (mg : Addr) (mcl : Cell) (h0 : Heap) (n0 : Nat) (v : Option Value) (h : Heap) (L : List Loc) : Prop := v = some (.int (64 : Int32)) ∧ Fr n0 L ∧ Keep h0 h [a1]
set_option maxRecDepth 65536 in
set_option maxHeartbeats 40000000 in
theorem rm34 (l : Launch) (Z : State) (a0 : Array Value) (hw : ∀ d ∈ tables_1, d.before a0 Z = true) (ws : List Jvm.Cond) (a1 : Addr) (mg : Addr) (mcl : Cell) (h0 : Heap) (n0 : Nat) (Z0 : n0 ≤ h0.size) (E_a1 : Exa Z h0 a1 "java/math/BigInteger") (g_a1 : n0 ≤ a1) (F_signum_a1 : Fld Z h0 a1 "java/math/BigInteger" "signum" "I" (.int (1 : Int32))) (F_mag_a1 : Fld Z h0 a1 "java/math/BigInteger" "mag" "[I" (.ref mg)) (F_bitLengthPlusOne_a1 : Fld Z h0 a1 "java/math/BigInteger" "bitLengthPlusOne" "I" (.int (0 : Int32))) (Ar_mg : Arr Z h0 mg mcl .int) (hmz : mcl.slots.size = 2) (hm0 : mcl.slots[0]? = some (.int (-2147483648 : Int32))) (hm1 : mcl.slots[1]? = some (.int (0 : Int32))) :
    MetFree l (⟨"java/math/BigInteger", "bitLength", "()I"⟩ : MethodName) (head1 (Jvm.Cond.code (⟨"java/math/BigInteger", "bitLength", "()I"⟩ : MethodName) jdk_2097_method_118_code 7 (some .int) :: ws) ({ frames := 2, cells := 0, slots := 0, locals := 27 } : Room)) (fun a U => a = #[(.ref a1)] ∧ Z.Warmed39 U.vm ∧ U.heap = h0) (fun _ _ _ _ _ => True) (fun _ U o U' => ∃ v L, o = .returned v ∧ Q34 Z a1 mg mcl h0 n0 v U'.heap L ∧ FrameEnd U o U' L ({ frames := 2, cells := 0, slots := 0, locals := 27 } : Room).cells ({ frames := 2, cells := 0, slots := 0, locals := 27 } : Room).slots) := by
  refine MetFree.of_bodySF (plainFor_of_name pn_34) hisR ?_
  intro p e s m args below meth c s₁ Bd hml0 hP hK
  obtain ⟨rfl, hZ, hh⟩ := hP
  have hx := Bd.exec
  have hby := Bd.bytes
  have hml : c.maxLocals = 7 := hml0
  have hown : s.vm.findClass "java/math/BigInteger" = some m.cls := findClass_of_methodNamed Bd.named
  have hnm := (name_of_methodNamed Bd.named Bd.method).1
  have X0 : Stand p l e ({ frames := 2, cells := 0, slots := 0, locals := 27 } : Room) s m #[(.ref a1)] below meth c s₁ [] 0 0 := Stand.of_body Bd
  have e0 : s₁.heap = h0 := by rw [← hh, Bd.state]; rfl
  have N0 := Fr.nil n0
  have pre0 : ∀ t, Steps p.tables e below (s₁.setTop (mkF m 0 #[.val (.ref a1), .unset, .unset, .unset, .unset, .unset, .unset] [])) t → Steps p.tables e below (s₁.setTop (entryFrame m #[(.ref a1)] 7)) t := fun t k => castTop (ef_34_x m a1) k
  have J1 : ∀ t, Steps p.tables e below (s₁.setTop (mkF m 1 #[.val (.ref a1), .unset, .unset, .unset, .unset, .unset, .unset] [(.ref a1)])) t → Steps p.tables e below (s₁.setTop (entryFrame m #[(.ref a1)] 7)) t := fun t k => pre0 t (by
      show Steps p.tables e below (s₁.setTop (mkF m 0 #[.val (.ref a1), .unset, .unset, .unset, .unset, .unset, .unset] [])) _
      refine XS.aloadN X0.here hx rfl (hb hby d34_0) rfl rfl ?_
      exact k)
  obtain ⟨T2, X2, e2, st2⟩ := getF X0 hx hZ hown (host := "") (Or.inl (hw _ (List.mem_of_getElem? (i := 222) rfl))) Via.refl e0 F_bitLengthPlusOne_a1 (g := (mkF m 1 #[.val (.ref a1), .unset, .unset, .unset, .unset, .unset, .unset] [(.ref a1)])) rfl rfl (hb hby d34_1)
  have J3 : ∀ t, Steps p.tables e below (T2.setTop (mkF m 4 #[.val (.ref a1), .unset, .unset, .unset, .unset, .unset, .unset] [(.int (0 : Int32))])) t → Steps p.tables e below (s₁.setTop (entryFrame m #[(.ref a1)] 7)) t := fun t k => J1 t (st2 t k)
  have J4 : ∀ t, Steps p.tables e below (T2.setTop (mkF m 6 #[.val (.ref a1), .unset, .unset, .unset, .unset, .unset, .unset] [(.int ((0 : Int32) - (1 : Int32)))])) t → Steps p.tables e below (s₁.setTop (entryFrame m #[(.ref a1)] 7)) t := fun t k => J3 t (by
      show Steps p.tables e below (T2.setTop (mkF m 4 #[.val (.ref a1), .unset, .unset, .unset, .unset, .unset, .unset] [(.int (0 : Int32))])) _
      refine XS.iconst X2.here hx rfl (hb hby d34_4) ?_
      show Steps p.tables e below (T2.setTop (mkF m 5 #[.val (.ref a1), .unset, .unset, .unset, .unset, .unset, .unset] [(.int (1 : Int32)), (.int (0 : Int32))])) _
      refine XS.isub X2.here hx rfl (hb hby d34_5) rfl ?_
      exact k)
  have J5 : ∀ t, Steps p.tables e below (T2.setTop (mkF m 6 #[.val (.ref a1), .unset, .unset, .unset, .unset, .unset, .unset] [(.int (-1 : Int32))])) t → Steps p.tables e below (s₁.setTop (entryFrame m #[(.ref a1)] 7)) t := fun t k => J4 t (by rw [(by decide : ((0 : Int32) - (1 : Int32)) = (-1 : Int32))]; exact k)
  have J6 : ∀ t, Steps p.tables e below (T2.setTop (mkF m 13 #[.val (.ref a1), .val (.int (-1 : Int32)), .unset, .unset, .unset, .unset, .unset] [(.ref a1)])) t → Steps p.tables e below (s₁.setTop (entryFrame m #[(.ref a1)] 7)) t := fun t k => J5 t (by
      show Steps p.tables e below (T2.setTop (mkF m 6 #[.val (.ref a1), .unset, .unset, .unset, .unset, .unset, .unset] [(.int (-1 : Int32))])) _
      refine XS.istoreN X2.here hx rfl (hb hby d34_6) rfl (l' := #[.val (.ref a1), .val (.int (-1 : Int32)), .unset, .unset, .unset, .unset, .unset]) rfl ?_
      show Steps p.tables e below (T2.setTop (mkF m 7 #[.val (.ref a1), .val (.int (-1 : Int32)), .unset, .unset, .unset, .unset, .unset] [])) _
      refine XS.iloadN X2.here hx rfl (hb hby d34_7) rfl ?_
      show Steps p.tables e below (T2.setTop (mkF m 8 #[.val (.ref a1), .val (.int (-1 : Int32)), .unset, .unset, .unset, .unset, .unset] [(.int (-1 : Int32))])) _
      refine XS.iconst X2.here hx rfl (hb hby d34_8) ?_
      show Steps p.tables e below (T2.setTop (mkF m 9 #[.val (.ref a1), .val (.int (-1 : Int32)), .unset, .unset, .unset, .unset, .unset] [(.int (-1 : Int32)), (.int (-1 : Int32))])) _
      refine XS.icmpNo X2.here hx rfl (hb hby d34_9) rfl (teq rfl).2 ?_
      show Steps p.tables e below (T2.setTop (mkF m 12 #[.val (.ref a1), .val (.int (-1 : Int32)), .unset, .unset, .unset, .unset, .unset] [])) _
      refine XS.aloadN X2.here hx rfl (hb hby d34_12) rfl rfl ?_
      exact k)
  obtain ⟨T7, X7, e7, st7⟩ := getF X2 hx hZ hown (host := "") (Or.inl (hw _ (List.mem_of_getElem? (i := 159) rfl))) Via.refl e2 F_mag_a1 (g := (mkF m 13 #[.val (.ref a1), .val (.int (-1 : Int32)), .unset, .unset, .unset, .unset, .unset] [(.ref a1)])) rfl rfl (hb hby d34_13)
  have J8 : ∀ t, Steps p.tables e below (T7.setTop (mkF m 16 #[.val (.ref a1), .val (.int (-1 : Int32)), .unset, .unset, .unset, .unset, .unset] [(.ref mg)])) t → Steps p.tables e below (s₁.setTop (entryFrame m #[(.ref a1)] 7)) t := fun t k => J6 t (st7 t k)
  have J9 : ∀ t, Steps p.tables e below (T7.setTop (mkF m 35 #[.val (.ref a1), .val (.int (-1 : Int32)), .val (.ref mg), .val (.int (2 : Int32)), .unset, .unset, .unset] [(.ref a1), (.int (((2 : Int32) - (1 : Int32)) <<< ((5 : Int32) &&& 31)))])) t → Steps p.tables e below (s₁.setTop (entryFrame m #[(.ref a1)] 7)) t := fun t k => J8 t (by
      show Steps p.tables e below (T7.setTop (mkF m 16 #[.val (.ref a1), .val (.int (-1 : Int32)), .unset, .unset, .unset, .unset, .unset] [(.ref mg)])) _
      refine XS.astoreN X7.here hx rfl (hb hby d34_16) rfl rfl (l' := #[.val (.ref a1), .val (.int (-1 : Int32)), .val (.ref mg), .unset, .unset, .unset, .unset]) rfl ?_
      show Steps p.tables e below (T7.setTop (mkF m 17 #[.val (.ref a1), .val (.int (-1 : Int32)), .val (.ref mg), .unset, .unset, .unset, .unset] [])) _
      refine XS.aloadN X7.here hx rfl (hb hby d34_17) rfl rfl ?_
      show Steps p.tables e below (T7.setTop (mkF m 18 #[.val (.ref a1), .val (.int (-1 : Int32)), .val (.ref mg), .unset, .unset, .unset, .unset] [(.ref mg)])) _
      refine X7.arraylength hx (cell := mcl) (by rw [e7]; exact Ar_mg.1) (State.isArrayOf_alike hZ.alike Ar_mg.2.1) (g := (mkF m 18 #[.val (.ref a1), .val (.int (-1 : Int32)), .val (.ref mg), .unset, .unset, .unset, .unset] [(.ref mg)])) rfl (rest := []) rfl (hb hby d34_18) _ ?_
      rw [(show mcl.slots.size.toInt32 = (2 : Int32) from by rw [hmz]; rfl)]
      show Steps p.tables e below (T7.setTop (mkF m 19 #[.val (.ref a1), .val (.int (-1 : Int32)), .val (.ref mg), .unset, .unset, .unset, .unset] [(.int (2 : Int32))])) _
      refine XS.istoreN X7.here hx rfl (hb hby d34_19) rfl (l' := #[.val (.ref a1), .val (.int (-1 : Int32)), .val (.ref mg), .val (.int (2 : Int32)), .unset, .unset, .unset]) rfl ?_
      show Steps p.tables e below (T7.setTop (mkF m 20 #[.val (.ref a1), .val (.int (-1 : Int32)), .val (.ref mg), .val (.int (2 : Int32)), .unset, .unset, .unset] [])) _
      refine XS.iloadN X7.here hx rfl (hb hby d34_20) rfl ?_
      show Steps p.tables e below (T7.setTop (mkF m 21 #[.val (.ref a1), .val (.int (-1 : Int32)), .val (.ref mg), .val (.int (2 : Int32)), .unset, .unset, .unset] [(.int (2 : Int32))])) _
      refine XS.ifYes X7.here hx rfl (pc0 := 21) (pc' := 29) rfl (hb hby d34_21) rfl ((if0 _ _).trans (feq (by decide)).2) (by decide) (by decide) ?_
      show Steps p.tables e below (T7.setTop (mkF m 29 #[.val (.ref a1), .val (.int (-1 : Int32)), .val (.ref mg), .val (.int (2 : Int32)), .unset, .unset, .unset] [])) _
      refine XS.iloadN X7.here hx rfl (hb hby d34_29) rfl ?_
      show Steps p.tables e below (T7.setTop (mkF m 30 #[.val (.ref a1), .val (.int (-1 : Int32)), .val (.ref mg), .val (.int (2 : Int32)), .unset, .unset, .unset] [(.int (2 : Int32))])) _
      refine XS.iconst X7.here hx rfl (hb hby d34_30) ?_
      show Steps p.tables e below (T7.setTop (mkF m 31 #[.val (.ref a1), .val (.int (-1 : Int32)), .val (.ref mg), .val (.int (2 : Int32)), .unset, .unset, .unset] [(.int (1 : Int32)), (.int (2 : Int32))])) _
      refine XS.isub X7.here hx rfl (hb hby d34_31) rfl ?_
      show Steps p.tables e below (T7.setTop (mkF m 32 #[.val (.ref a1), .val (.int (-1 : Int32)), .val (.ref mg), .val (.int (2 : Int32)), .unset, .unset, .unset] [(.int ((2 : Int32) - (1 : Int32)))])) _
      refine XS.iconst X7.here hx rfl (hb hby d34_32) ?_
      show Steps p.tables e below (T7.setTop (mkF m 33 #[.val (.ref a1), .val (.int (-1 : Int32)), .val (.ref mg), .val (.int (2 : Int32)), .unset, .unset, .unset] [(.int (5 : Int32)), (.int ((2 : Int32) - (1 : Int32)))])) _
      refine XS.ishl X7.here hx rfl (hb hby d34_33) rfl ?_
      show Steps p.tables e below (T7.setTop (mkF m 34 #[.val (.ref a1), .val (.int (-1 : Int32)), .val (.ref mg), .val (.int (2 : Int32)), .unset, .unset, .unset] [(.int (((2 : Int32) - (1 : Int32)) <<< ((5 : Int32) &&& 31)))])) _
      refine XS.aloadN X7.here hx rfl (hb hby d34_34) rfl rfl ?_
      exact k)
  obtain ⟨T10, X10, e10, st10⟩ := getF X7 hx hZ hown (host := "") (Or.inl (hw _ (List.mem_of_getElem? (i := 159) rfl))) Via.refl e7 F_mag_a1 (g := (mkF m 35 #[.val (.ref a1), .val (.int (-1 : Int32)), .val (.ref mg), .val (.int (2 : Int32)), .unset, .unset, .unset] [(.ref a1), (.int (((2 : Int32) - (1 : Int32)) <<< ((5 : Int32) &&& 31)))])) rfl rfl (hb hby d34_35)
  have J11 : ∀ t, Steps p.tables e below (T10.setTop (mkF m 38 #[.val (.ref a1), .val (.int (-1 : Int32)), .val (.ref mg), .val (.int (2 : Int32)), .unset, .unset, .unset] [(.ref mg), (.int (((2 : Int32) - (1 : Int32)) <<< ((5 : Int32) &&& 31)))])) t → Steps p.tables e below (s₁.setTop (entryFrame m #[(.ref a1)] 7)) t := fun t k => J9 t (st10 t k)
  have J12 : ∀ t, Steps p.tables e below (T10.setTop (mkF m 40 #[.val (.ref a1), .val (.int (-1 : Int32)), .val (.ref mg), .val (.int (2 : Int32)), .unset, .unset, .unset] [(.int (-2147483648 : Int32)), (.int (((2 : Int32) - (1 : Int32)) <<< ((5 : Int32) &&& 31)))])) t → Steps p.tables e below (s₁.setTop (entryFrame m #[(.ref a1)] 7)) t := fun t k => J11 t (by
      show Steps p.tables e below (T10.setTop (mkF m 38 #[.val (.ref a1), .val (.int (-1 : Int32)), .val (.ref mg), .val (.int (2 : Int32)), .unset, .unset, .unset] [(.ref mg), (.int (((2 : Int32) - (1 : Int32)) <<< ((5 : Int32) &&& 31)))])) _
      refine XS.iconst X10.here hx rfl (hb hby d34_38) ?_
      show Steps p.tables e below (T10.setTop (mkF m 39 #[.val (.ref a1), .val (.int (-1 : Int32)), .val (.ref mg), .val (.int (2 : Int32)), .unset, .unset, .unset] [(.int (0 : Int32)), (.ref mg), (.int (((2 : Int32) - (1 : Int32)) <<< ((5 : Int32) &&& 31)))])) _
      refine X10.iaload hx (j := (0 : Int32)) (v := (.int (-2147483648 : Int32))) (by rw [e10]; exact Ar_mg.1) (State.isArrayOf_alike hZ.alike Ar_mg.2.1) Ar_mg.2.2 (own_in hmz (by decide) (by decide)) (own_at (by decide) hm0) (g := (mkF m 39 #[.val (.ref a1), .val (.int (-1 : Int32)), .val (.ref mg), .val (.int (2 : Int32)), .unset, .unset, .unset] [(.int (0 : Int32)), (.ref mg), (.int (((2 : Int32) - (1 : Int32)) <<< ((5 : Int32) &&& 31)))])) rfl rfl (hb hby d34_39) _ ?_
      exact k)
  obtain ⟨_, _, ⟨T13, L13, k13, n13⟩, -, X13, ⟨Lc13, hQ13, l13, y13, z13⟩, st13⟩ := Jvm.LawKit.callS X10 hx (y := (⟨"java/math/BigInteger", "bitLengthForInt", "(I)I"⟩ : MethodName)) hown (mvT hZ (hw _ (List.mem_of_getElem? (i := 224) rfl))) (mvT hZ (hw _ (List.mem_of_getElem? (i := 225) rfl))) (mvT hZ (hw _ (List.mem_of_getElem? (i := 145) rfl))) (mvT hZ (hw _ (List.mem_of_getElem? (i := 226) rfl))) (by decide) (backOf (W := 1) (rm35 l Z a0 hw []  h0 n0 Z0 ) hZ (hw _ (List.mem_of_getElem? (i := 226) rfl)) (hw _ (List.mem_of_getElem? (i := 145) rfl)) (by decide) (by decide)) (g := (mkF m 40 #[.val (.ref a1), .val (.int (-1 : Int32)), .val (.ref mg), .val (.int (2 : Int32)), .unset, .unset, .unset] [(.int (-2147483648 : Int32)), (.int (((2 : Int32) - (1 : Int32)) <<< ((5 : Int32) &&& 31)))])) rfl (by rw [hml]; rfl) (argsL := [(.int (-2147483648 : Int32))]) (rest := [(.int (((2 : Int32) - (1 : Int32)) <<< ((5 : Int32) &&& 31)))]) (lenOf pd_17 rfl) rfl (by show 2 * 0 + _ ≤ _; exact Nat.le_of_eq rfl) (hb hby d34_40) (fun _ _ => ⟨rfl, e10, (by decide : 0 + 0 ≤ _), (by decide : 0 + 0 ≤ _)⟩)
  dsimp only [Pt.U, Pt.locs, Pt.cells, Pt.slots] at X13 l13 y13 z13 st13 hQ13
  subst y13 z13
  obtain ⟨rfl, Nq13, e13⟩ := hQ13
  have N14 : Fr n0 L13 := by rw [l13]; exact Fr.app N0 Nq13
  have J15 : ∀ t, Steps p.tables e below (T13.setTop (mkF m 43 #[.val (.ref a1), .val (.int (-1 : Int32)), .val (.ref mg), .val (.int (2 : Int32)), .unset, .unset, .unset] [(.int (32 : Int32)), (.int (((2 : Int32) - (1 : Int32)) <<< ((5 : Int32) &&& 31)))])) t → Steps p.tables e below (s₁.setTop (entryFrame m #[(.ref a1)] 7)) t := fun t k => J12 t (st13 t k)
  have J16 : ∀ t, Steps p.tables e below (T13.setTop (mkF m 44 #[.val (.ref a1), .val (.int (-1 : Int32)), .val (.ref mg), .val (.int (2 : Int32)), .unset, .unset, .unset] [(.int ((((2 : Int32) - (1 : Int32)) <<< ((5 : Int32) &&& 31)) + (32 : Int32)))])) t → Steps p.tables e below (s₁.setTop (entryFrame m #[(.ref a1)] 7)) t := fun t k => J15 t (by
      show Steps p.tables e below (T13.setTop (mkF m 43 #[.val (.ref a1), .val (.int (-1 : Int32)), .val (.ref mg), .val (.int (2 : Int32)), .unset, .unset, .unset] [(.int (32 : Int32)), (.int (((2 : Int32) - (1 : Int32)) <<< ((5 : Int32) &&& 31)))])) _
      refine XS.iadd X13.here hx rfl (hb hby d34_43) rfl ?_
      exact k)
  have J17 : ∀ t, Steps p.tables e below (T13.setTop (mkF m 44 #[.val (.ref a1), .val (.int (-1 : Int32)), .val (.ref mg), .val (.int (2 : Int32)), .unset, .unset, .unset] [(.int (64 : Int32))])) t → Steps p.tables e below (s₁.setTop (entryFrame m #[(.ref a1)] 7)) t := fun t k => J16 t (by rw [(by decide : ((((2 : Int32) - (1 : Int32)) <<< ((5 : Int32) &&& 31)) + (32 : Int32)) = (64 : Int32))]; exact k)
  have J18 : ∀ t, Steps p.tables e below (T13.setTop (mkF m 47 #[.val (.ref a1), .val (.int (-1 : Int32)), .val (.ref mg), .val (.int (2 : Int32)), .val (.int (64 : Int32)), .unset, .unset] [(.ref a1)])) t → Steps p.tables e below (s₁.setTop (entryFrame m #[(.ref a1)] 7)) t := fun t k => J17 t (by
      show Steps p.tables e below (T13.setTop (mkF m 44 #[.val (.ref a1), .val (.int (-1 : Int32)), .val (.ref mg), .val (.int (2 : Int32)), .unset, .unset, .unset] [(.int (64 : Int32))])) _
      refine XS.istore X13.here hx rfl (hb hby d34_44) rfl (l' := #[.val (.ref a1), .val (.int (-1 : Int32)), .val (.ref mg), .val (.int (2 : Int32)), .val (.int (64 : Int32)), .unset, .unset]) rfl ?_
      show Steps p.tables e below (T13.setTop (mkF m 46 #[.val (.ref a1), .val (.int (-1 : Int32)), .val (.ref mg), .val (.int (2 : Int32)), .val (.int (64 : Int32)), .unset, .unset] [])) _
      refine XS.aloadN X13.here hx rfl (hb hby d34_46) rfl rfl ?_
      exact k)
  obtain ⟨T19, X19, e19, st19⟩ := getF X13 hx hZ hown (host := "") (Or.inl (hw _ (List.mem_of_getElem? (i := 156) rfl))) Via.refl e13 F_signum_a1 (g := (mkF m 47 #[.val (.ref a1), .val (.int (-1 : Int32)), .val (.ref mg), .val (.int (2 : Int32)), .val (.int (64 : Int32)), .unset, .unset] [(.ref a1)])) rfl rfl (hb hby d34_47)
  have J20 : ∀ t, Steps p.tables e below (T19.setTop (mkF m 50 #[.val (.ref a1), .val (.int (-1 : Int32)), .val (.ref mg), .val (.int (2 : Int32)), .val (.int (64 : Int32)), .unset, .unset] [(.int (1 : Int32))])) t → Steps p.tables e below (s₁.setTop (entryFrame m #[(.ref a1)] 7)) t := fun t k => J18 t (st19 t k)
  have J21 : ∀ t, Steps p.tables e below (T19.setTop (mkF m 135 #[.val (.ref a1), .val (.int (64 : Int32)), .val (.ref mg), .val (.int (2 : Int32)), .val (.int (64 : Int32)), .unset, .unset] [(.int ((64 : Int32) + (1 : Int32))), (.ref a1)])) t → Steps p.tables e below (s₁.setTop (entryFrame m #[(.ref a1)] 7)) t := fun t k => J20 t (by
      show Steps p.tables e below (T19.setTop (mkF m 50 #[.val (.ref a1), .val (.int (-1 : Int32)), .val (.ref mg), .val (.int (2 : Int32)), .val (.int (64 : Int32)), .unset, .unset] [(.int (1 : Int32))])) _
      refine XS.ifYes X19.here hx rfl (pc0 := 50) (pc' := 128) rfl (hb hby d34_50) rfl ((if0 _ _).trans (flt (by decide)).2.1) (by decide) (by decide) ?_
      show Steps p.tables e below (T19.setTop (mkF m 128 #[.val (.ref a1), .val (.int (-1 : Int32)), .val (.ref mg), .val (.int (2 : Int32)), .val (.int (64 : Int32)), .unset, .unset] [])) _
      refine XS.iload X19.here hx rfl (hb hby d34_128) rfl ?_
      show Steps p.tables e below (T19.setTop (mkF m 130 #[.val (.ref a1), .val (.int (-1 : Int32)), .val (.ref mg), .val (.int (2 : Int32)), .val (.int (64 : Int32)), .unset, .unset] [(.int (64 : Int32))])) _
      refine XS.istoreN X19.here hx rfl (hb hby d34_130) rfl (l' := #[.val (.ref a1), .val (.int (64 : Int32)), .val (.ref mg), .val (.int (2 : Int32)), .val (.int (64 : Int32)), .unset, .unset]) rfl ?_
      show Steps p.tables e below (T19.setTop (mkF m 131 #[.val (.ref a1), .val (.int (64 : Int32)), .val (.ref mg), .val (.int (2 : Int32)), .val (.int (64 : Int32)), .unset, .unset] [])) _
      refine XS.aloadN X19.here hx rfl (hb hby d34_131) rfl rfl ?_
      show Steps p.tables e below (T19.setTop (mkF m 132 #[.val (.ref a1), .val (.int (64 : Int32)), .val (.ref mg), .val (.int (2 : Int32)), .val (.int (64 : Int32)), .unset, .unset] [(.ref a1)])) _
      refine XS.iloadN X19.here hx rfl (hb hby d34_132) rfl ?_
      show Steps p.tables e below (T19.setTop (mkF m 133 #[.val (.ref a1), .val (.int (64 : Int32)), .val (.ref mg), .val (.int (2 : Int32)), .val (.int (64 : Int32)), .unset, .unset] [(.int (64 : Int32)), (.ref a1)])) _
      refine XS.iconst X19.here hx rfl (hb hby d34_133) ?_
      show Steps p.tables e below (T19.setTop (mkF m 134 #[.val (.ref a1), .val (.int (64 : Int32)), .val (.ref mg), .val (.int (2 : Int32)), .val (.int (64 : Int32)), .unset, .unset] [(.int (1 : Int32)), (.int (64 : Int32)), (.ref a1)])) _
      refine XS.iadd X19.here hx rfl (hb hby d34_134) rfl ?_
      exact k)
  obtain ⟨T22, h22, X22, e22, W22, st22⟩ := putF X19 hx hZ hown (host := "") (Or.inl (hw _ (List.mem_of_getElem? (i := 222) rfl))) Via.refl e19 F_bitLengthPlusOne_a1 E_a1 (Or.inl (hw _ (List.mem_of_getElem? (i := 223) rfl))) (hw _ (List.mem_of_getElem? (i := 149) rfl)) (ty := .int) (by decide) rfl rfl (g := (mkF m 135 #[.val (.ref a1), .val (.int (64 : Int32)), .val (.ref mg), .val (.int (2 : Int32)), .val (.int (64 : Int32)), .unset, .unset] [(.int ((64 : Int32) + (1 : Int32))), (.ref a1)])) rfl rfl (hb hby d34_135)
  have J23 : ∀ t, Steps p.tables e below (T22.setTop (mkF m 138 #[.val (.ref a1), .val (.int (64 : Int32)), .val (.ref mg), .val (.int (2 : Int32)), .val (.int (64 : Int32)), .unset, .unset] [])) t → Steps p.tables e below (s₁.setTop (entryFrame m #[(.ref a1)] 7)) t := fun t k => J21 t (st22 t k)
  have Z24 : n0 ≤ h22.size := Nat.le_trans Z0 (Keep.of_wr W22).1
  have KK25 : Keep h0 h22 [a1] := (Keep.refl h0 [a1]).wr W22 (Or.inl (List.mem_of_getElem? (i := 0) rfl))
  have N26 := Fr.snoc X22 N14 g_a1
  have Fw22 := F_bitLengthPlusOne_a1.same W22
  have J27 : ∀ t, Steps p.tables e below (T22.setTop (mkF m 139 #[.val (.ref a1), .val (.int (64 : Int32)), .val (.ref mg), .val (.int (2 : Int32)), .val (.int (64 : Int32)), .unset, .unset] [(.int (64 : Int32))])) t → Steps p.tables e below (s₁.setTop (entryFrame m #[(.ref a1)] 7)) t := fun t k => J23 t (by
      show Steps p.tables e below (T22.setTop (mkF m 138 #[.val (.ref a1), .val (.int (64 : Int32)), .val (.ref mg), .val (.int (2 : Int32)), .val (.int (64 : Int32)), .unset, .unset] [])) _
      refine XS.iloadN X22.here hx rfl (hb hby d34_138) rfl ?_
      exact k)
  obtain ⟨fs, hr, hrun, hended, hW, hsame⟩ := X22.leave (v := some (.int (64 : Int32))) (fun h => by rw [Bd.returns] at h; cases h)
  refine ⟨_, _, J27 _ ?_, hrun, hended, _, _, rfl, ?_, ⟨_, rfl⟩, hW, hsame.mono (by decide) (by decide)⟩
  · show Steps p.tables e below (T22.setTop (mkF m 139 #[.val (.ref a1), .val (.int (64 : Int32)), .val (.ref mg), .val (.int (2 : Int32)), .val (.int (64 : Int32)), .unset, .unset] [(.int (64 : Int32))])) _
    exact retI X22 hx Bd.returns (hb hby d34_139) hr
  · show Q34 Z a1 mg mcl h0 n0 _ T22.heap _
    rw [e22]
    exact ⟨rfl, N26, KK25⟩
theorem d30_0 : decode prog_84_method_3_code 0 = .ok (.aload_n 1, 1) := by decide +kernel
theorem d30_1 : decode prog_84_method_3_code 1 = .ok (.invokevirtual 17, 3) := by decide +kernel
theorem pd_18 : parseMethodDescriptor "()I" = some ⟨[], some .int⟩ := by decide +kernel
theorem d30_4 : decode prog_84_method_3_code 4 = .ok (.iconst 2, 1) := by decide +kernel
theorem d30_5 : decode prog_84_method_3_code 5 = .ok (.if_icmp .ne 27, 3) := by decide +kernel
theorem d30_8 : decode prog_84_method_3_code 8 = .ok (.aload_n 1, 1) := by decide +kernel
theorem d30_9 : decode prog_84_method_3_code 9 = .ok (.invokevirtual 25, 3) := by decide +kernel
theorem d30_12 : decode prog_84_method_3_code 12 = .ok (.invokevirtual 29, 3) := by decide +kernel
theorem d30_15 : decode prog_84_method_3_code 15 = .ok (.bipush 64, 2) := by decide +kernel
theorem d30_17 : decode prog_84_method_3_code 17 = .ok (.if_icmp .ge 15, 3) := by decide +kernel
theorem d30_32 : decode prog_84_method_3_code 32 = .ok (.aload_n 0, 1) := by decide +kernel
theorem d30_33 : decode prog_84_method_3_code 33 = .ok (.aload_n 1, 1) := by decide +kernel
theorem d30_34 : decode prog_84_method_3_code 34 = .ok (.putfield 13, 3) := by decide +kernel
theorem d30_37 : decode prog_84_method_3_code 37 = .ok (.aload_n 0, 1) := by decide +kernel
theorem d30_38 : decode prog_84_method_3_code 38 = .ok (.areturn, 1) := by decide +kernel
theorem pn_30 : plainName "com/example/tranche/tranche/model/Amount" = true := by first | (simp [plainName, overriddenIn]; done) | decide +kernel
theorem ef_30_xx (m : MethodId) (x0 : Addr) (x1 : Addr) : entryFrame m #[(.ref x0), (.ref x1)] 2 = mkF m 0 #[.val (.ref x0), .val (.ref x1)] [] := by first | (simp [entryFrame, mkF, argsToLocals, Value.category]; done) | rfl
def Q30 (Z : State) (a1 : Addr) (bd : Addr) (bi : Addr) (mg : Addr) (mcl : Cell) (v1 : Value) (u1 : Value) (h0 : Heap) (n0 : Nat) (v : Option Value) (h : Heap) (L : List Loc) : Prop := v = some (.ref a1) ∧ Fr n0 L ∧ Keep h0 h [a1, bi] ∧ (Exa Z h a1 "com/example/tranche/tranche/model/Amount") ∧ (Fld Z h a1 "com/example/tranche/tranche/model/Amount" "cents" "J" v1) ∧ (Fld Z h a1 "com/example/tranche/tranche/model/Amount" "wide" "Ljava/math/BigDecimal;" (.ref bd))
set_option maxRecDepth 65536 in
set_option maxHeartbeats 40000000 in
theorem rm30 (l : Launch) (Z : State) (a0 : Array Value) (hw : ∀ d ∈ tables_1, d.before a0 Z = true) (ws : List Jvm.Cond) (a1 : Addr) (bd : Addr) (bi : Addr) (mg : Addr) (mcl : Cell) (v1 : Value) (u1 : Value) (h0 : Heap) (n0 : Nat) (Z0 : n0 ≤ h0.size) (E_a1 : Exa Z h0 a1 "com/example/tranche/tranche/model/Amount") (g_a1 : n0 ≤ a1) (g_bi : n0 ≤ bi) (F_cents_a1 : Fld Z h0 a1 "com/example/tranche/tranche/model/Amount" "cents" "J" v1) (F_wide_a1 : Fld Z h0 a1 "com/example/tranche/tranche/model/Amount" "wide" "Ljava/math/BigDecimal;" u1) (E_bd : Exa Z h0 bd "java/math/BigDecimal") (F_intVal_bd : Fld Z h0 bd "java/math/BigDecimal" "intVal" "Ljava/math/BigInteger;" (.ref bi)) (F_scale_bd : Fld Z h0 bd "java/math/BigDecimal" "scale" "I" (.int (2 : Int32))) (E_bi : Exa Z h0 bi "java/math/BigInteger") (F_signum_bi : Fld Z h0 bi "java/math/BigInteger" "signum" "I" (.int (1 : Int32))) (F_mag_bi : Fld Z h0 bi "java/math/BigInteger" "mag" "[I" (.ref mg)) (F_bitLengthPlusOne_bi : Fld Z h0 bi "java/math/BigInteger" "bitLengthPlusOne" "I" (.int (0 : Int32))) (Ar_mg : Arr Z h0 mg mcl .int) (hmz : mcl.slots.size = 2) (hm0 : mcl.slots[0]? = some (.int (-2147483648 : Int32))) (hm1 : mcl.slots[1]? = some (.int (0 : Int32))) (ne_a1_bi : a1 ≠ bi) (ne_a1_bd : a1 ≠ bd) (ne_bd_bi : bd ≠ bi) (ne_bi_mg : bi ≠ mg) :
    MetFree l (⟨"com/example/tranche/tranche/model/Amount", "set", "(Ljava/math/BigDecimal;)Lcom/example/tranche/tranche/model/Amount;"⟩ : MethodName) (head1 (Jvm.Cond.code (⟨"com/example/tranche/tranche/model/Amount", "set", "(Ljava/math/BigDecimal;)Lcom/example/tranche/tranche/model/Amount;"⟩ : MethodName) prog_84_method_3_code 2 (some (.object "com/example/tranche/tranche/model/Amount")) :: ws) ({ frames := 3, cells := 0, slots := 0, locals := 45 } : Room)) (fun a U => a = #[(.ref a1), (.ref bd)] ∧ Z.Warmed39 U.vm ∧ U.heap = h0) (fun _ _ _ _ _ => True) (fun _ U o U' => ∃ v L, o = .returned v ∧ Q30 Z a1 bd bi mg mcl v1 u1 h0 n0 v U'.heap L ∧ FrameEnd U o U' L ({ frames := 3, cells := 0, slots := 0, locals := 45 } : Room).cells ({ frames := 3, cells := 0, slots := 0, locals := 45 } : Room).slots) := by
  refine MetFree.of_bodySF (plainFor_of_name pn_30) hisR ?_
  intro p e s m args below meth c s₁ Bd hml0 hP hK
  obtain ⟨rfl, hZ, hh⟩ := hP
  have hx := Bd.exec
  have hby := Bd.bytes
  have hml : c.maxLocals = 2 := hml0
  have hown : s.vm.findClass "com/example/tranche/tranche/model/Amount" = some m.cls := findClass_of_methodNamed Bd.named
  have hnm := (name_of_methodNamed Bd.named Bd.method).1
  have X0 : Stand p l e ({ frames := 3, cells := 0, slots := 0, locals := 45 } : Room) s m #[(.ref a1), (.ref bd)] below meth c s₁ [] 0 0 := Stand.of_body Bd
  have e0 : s₁.heap = h0 := by rw [← hh, Bd.state]; rfl
  have N0 := Fr.nil n0
  have pre0 : ∀ t, Steps p.tables e below (s₁.setTop (mkF m 0 #[.val (.ref a1), .val (.ref bd)] [])) t → Steps p.tables e below (s₁.setTop (entryFrame m #[(.ref a1), (.ref bd)] 2)) t := fun t k => castTop (ef_30_xx m a1 bd) k
  have J1 : ∀ t, Steps p.tables e below (s₁.setTop (mkF m 1 #[.val (.ref a1), .val (.ref bd)] [(.ref bd)])) t → Steps p.tables e below (s₁.setTop (entryFrame m #[(.ref a1), (.ref bd)] 2)) t := fun t k => pre0 t (by
      show Steps p.tables e below (s₁.setTop (mkF m 0 #[.val (.ref a1), .val (.ref bd)] [])) _
      refine XS.aloadN X0.here hx rfl (hb hby d30_0) rfl rfl ?_
      exact k)
  obtain ⟨cq2, kq2, q2a, q2b, q2c⟩ := isOf hZ e0 E_bd
  obtain ⟨_, _, ⟨T2, L2, k2, n2⟩, -, X2, ⟨Lc2, hQ2, l2, y2, z2⟩, st2⟩ := X0.virtualBack hx (y := (⟨"java/math/BigDecimal", "scale", "()I"⟩ : MethodName)) (z := (⟨"java/math/BigDecimal", "scale", "()I"⟩ : MethodName)) hown (mvT hZ (hw _ (List.mem_of_getElem? (i := 202) rfl))) (mvT hZ (hw _ (List.mem_of_getElem? (i := 203) rfl))) (notFace_of_selects (args := #[]) (mvT hZ (hw _ (List.mem_of_getElem? (i := 205) rfl)))) (mvT hZ (hw _ (List.mem_of_getElem? (i := 205) rfl))) (mvT hZ (hw _ (List.mem_of_getElem? (i := 204) rfl))) (by decide) (backOf (W := 0) (rm31 l Z a0 hw [] bd (2 : Int32) h0 n0 Z0 F_scale_bd) hZ (hw _ (List.mem_of_getElem? (i := 206) rfl)) (hw _ (List.mem_of_getElem? (i := 105) rfl)) (by decide) (by decide)) q2a q2c (g := (mkF m 1 #[.val (.ref a1), .val (.ref bd)] [(.ref bd)])) rfl (by rw [hml]; rfl) (Steps.refl _) (argsL := []) (rest := []) (lenOf pd_18 rfl) rfl (by show 2 * 0 + _ ≤ _; exact Nat.le_of_eq rfl) (hb hby d30_1) (fun _ _ => ⟨rfl, e0, (by decide : 0 + 0 ≤ _), (by decide : 0 + 0 ≤ _)⟩)
  dsimp only [Pt.U, Pt.locs, Pt.cells, Pt.slots] at X2 l2 y2 z2 st2 hQ2
  subst y2 z2
  obtain ⟨rfl, Nq2, e2⟩ := hQ2
  have N3 : Fr n0 L2 := by rw [l2]; exact Fr.app N0 Nq2
  have J4 : ∀ t, Steps p.tables e below (T2.setTop (mkF m 4 #[.val (.ref a1), .val (.ref bd)] [(.int (2 : Int32))])) t → Steps p.tables e below (s₁.setTop (entryFrame m #[(.ref a1), (.ref bd)] 2)) t := fun t k => J1 t (st2.trans k)
  have J5 : ∀ t, Steps p.tables e below (T2.setTop (mkF m 9 #[.val (.ref a1), .val (.ref bd)] [(.ref bd)])) t → Steps p.tables e below (s₁.setTop (entryFrame m #[(.ref a1), (.ref bd)] 2)) t := fun t k => J4 t (by
      show Steps p.tables e below (T2.setTop (mkF m 4 #[.val (.ref a1), .val (.ref bd)] [(.int (2 : Int32))])) _
      refine XS.iconst X2.here hx rfl (hb hby d30_4) ?_
      show Steps p.tables e below (T2.setTop (mkF m 5 #[.val (.ref a1), .val (.ref bd)] [(.int (2 : Int32)), (.int (2 : Int32))])) _
      refine XS.icmpNo X2.here hx rfl (hb hby d30_5) rfl (teq rfl).2 ?_
      show Steps p.tables e below (T2.setTop (mkF m 8 #[.val (.ref a1), .val (.ref bd)] [])) _
      refine XS.aloadN X2.here hx rfl (hb hby d30_8) rfl rfl ?_
      exact k)
  obtain ⟨cq6, kq6, q6a, q6b, q6c⟩ := isOf hZ e2 E_bd
  obtain ⟨_, _, ⟨T6, L6, k6, n6⟩, -, X6, ⟨Lc6, hQ6, l6, y6, z6⟩, st6⟩ := X2.virtualBack hx (y := (⟨"java/math/BigDecimal", "unscaledValue", "()Ljava/math/BigInteger;"⟩ : MethodName)) (z := (⟨"java/math/BigDecimal", "unscaledValue", "()Ljava/math/BigInteger;"⟩ : MethodName)) hown (mvT hZ (hw _ (List.mem_of_getElem? (i := 207) rfl))) (mvT hZ (hw _ (List.mem_of_getElem? (i := 208) rfl))) (notFace_of_selects (args := #[]) (mvT hZ (hw _ (List.mem_of_getElem? (i := 210) rfl)))) (mvT hZ (hw _ (List.mem_of_getElem? (i := 210) rfl))) (mvT hZ (hw _ (List.mem_of_getElem? (i := 209) rfl))) (by decide) (backOf (W := 0) (rm32 l Z a0 hw [] bd bi h0 n0 Z0 E_bd F_intVal_bd) hZ (hw _ (List.mem_of_getElem? (i := 211) rfl)) (hw _ (List.mem_of_getElem? (i := 105) rfl)) (by decide) (by decide)) q6a q6c (g := (mkF m 9 #[.val (.ref a1), .val (.ref bd)] [(.ref bd)])) rfl (by rw [hml]; rfl) (Steps.refl _) (argsL := []) (rest := []) (lenOf pd_16 rfl) rfl (by show 2 * 0 + _ ≤ _; exact Nat.le_of_eq rfl) (hb hby d30_9) (fun _ _ => ⟨rfl, e2, (by decide : 0 + 0 ≤ _), (by decide : 0 + 0 ≤ _)⟩)
  dsimp only [Pt.U, Pt.locs, Pt.cells, Pt.slots] at X6 l6 y6 z6 st6 hQ6
  subst y6 z6
  obtain ⟨rfl, Nq6, e6⟩ := hQ6
  have N7 : Fr n0 L6 := by rw [l6]; exact Fr.app N3 Nq6
  have J8 : ∀ t, Steps p.tables e below (T6.setTop (mkF m 12 #[.val (.ref a1), .val (.ref bd)] [(.ref bi)])) t → Steps p.tables e below (s₁.setTop (entryFrame m #[(.ref a1), (.ref bd)] 2)) t := fun t k => J5 t (st6.trans k)
  obtain ⟨cq9, kq9, q9a, q9b, q9c⟩ := isOf hZ e6 E_bi
  obtain ⟨_, _, ⟨T9, L9, k9, n9⟩, -, X9, ⟨Lc9, hQ9, l9, y9, z9⟩, st9⟩ := X6.virtualBack hx (y := (⟨"java/math/BigInteger", "bitLength", "()I"⟩ : MethodName)) (z := (⟨"java/math/BigInteger", "bitLength", "()I"⟩ : MethodName)) hown (mvT hZ (hw _ (List.mem_of_getElem? (i := 217) rfl))) (mvT hZ (hw _ (List.mem_of_getElem? (i := 218) rfl))) (notFace_of_selects (args := #[]) (mvT hZ (hw _ (List.mem_of_getElem? (i := 220) rfl)))) (mvT hZ (hw _ (List.mem_of_getElem? (i := 220) rfl))) (mvT hZ (hw _ (List.mem_of_getElem? (i := 219) rfl))) (by decide) (backOf (W := 0) (rm34 l Z a0 hw [] bi mg mcl h0 n0 Z0 E_bi g_bi F_signum_bi F_mag_bi F_bitLengthPlusOne_bi Ar_mg (by assumption) (by assumption) (by assumption)) hZ (hw _ (List.mem_of_getElem? (i := 221) rfl)) (hw _ (List.mem_of_getElem? (i := 145) rfl)) (by decide) (by decide)) q9a q9c (g := (mkF m 12 #[.val (.ref a1), .val (.ref bd)] [(.ref bi)])) rfl (by rw [hml]; rfl) (Steps.refl _) (argsL := []) (rest := []) (lenOf pd_18 rfl) rfl (by show 2 * 0 + _ ≤ _; exact Nat.le_of_eq rfl) (hb hby d30_12) (fun _ _ => ⟨rfl, e6, (by decide : 0 + 0 ≤ _), (by decide : 0 + 0 ≤ _)⟩)
  dsimp only [Pt.U, Pt.locs, Pt.cells, Pt.slots] at X9 l9 y9 z9 st9 hQ9
  subst y9 z9
  obtain ⟨rfl, Nq9, K9⟩ := hQ9
  have N10 : Fr n0 L9 := by rw [l9]; exact Fr.app N7 Nq9
  have J11 : ∀ t, Steps p.tables e below (T9.setTop (mkF m 15 #[.val (.ref a1), .val (.ref bd)] [(.int (64 : Int32))])) t → Steps p.tables e below (s₁.setTop (entryFrame m #[(.ref a1), (.ref bd)] 2)) t := fun t k => J8 t (st9.trans k)
  have Z12 : n0 ≤ T9.heap.size := Nat.le_trans Z0 K9.1
  have KK13 : Keep h0 T9.heap [a1, bi] := (Keep.refl h0 [a1, bi]).trans K9 (allS (Or.inl (List.mem_of_getElem? (i := 1) rfl)) all0)
  have J14 : ∀ t, Steps p.tables e below (T9.setTop (mkF m 34 #[.val (.ref a1), .val (.ref bd)] [(.ref bd), (.ref a1)])) t → Steps p.tables e below (s₁.setTop (entryFrame m #[(.ref a1), (.ref bd)] 2)) t := fun t k => J11 t (by
      show Steps p.tables e below (T9.setTop (mkF m 15 #[.val (.ref a1), .val (.ref bd)] [(.int (64 : Int32))])) _
      refine XS.bipush X9.here hx rfl (hb hby d30_15) ?_
      show Steps p.tables e below (T9.setTop (mkF m 17 #[.val (.ref a1), .val (.ref bd)] [(.int (64 : Int32)), (.int (64 : Int32))])) _
      refine XS.icmpYes X9.here hx rfl (pc0 := 17) (pc' := 32) rfl (hb hby d30_17) rfl (flt (by decide)).2.1 (by decide) (by decide) ?_
      show Steps p.tables e below (T9.setTop (mkF m 32 #[.val (.ref a1), .val (.ref bd)] [])) _
      refine XS.aloadN X9.here hx rfl (hb hby d30_32) rfl rfl ?_
      show Steps p.tables e below (T9.setTop (mkF m 33 #[.val (.ref a1), .val (.ref bd)] [(.ref a1)])) _
      refine XS.aloadN X9.here hx rfl (hb hby d30_33) rfl rfl ?_
      exact k)
  have f15 := F_wide_a1.keep K9 (ninS ne_a1_bi nin0)
  have f16 := E_a1.keep K9
  obtain ⟨T17, h17, X17, e17, W17, st17⟩ := putF X9 hx hZ hown (host := "") (Or.inl (hw _ (List.mem_of_getElem? (i := 17) rfl))) Via.refl rfl f15 f16 (Or.inl (hw _ (List.mem_of_getElem? (i := 18) rfl))) (hw _ (List.mem_of_getElem? (i := 1) rfl)) (ty := (.object "java/math/BigDecimal")) (by decide) rfl rfl (g := (mkF m 34 #[.val (.ref a1), .val (.ref bd)] [(.ref bd), (.ref a1)])) rfl rfl (hb hby d30_34)
  have J18 : ∀ t, Steps p.tables e below (T17.setTop (mkF m 37 #[.val (.ref a1), .val (.ref bd)] [])) t → Steps p.tables e below (s₁.setTop (entryFrame m #[(.ref a1), (.ref bd)] 2)) t := fun t k => J14 t (st17 t k)
  have Z19 : n0 ≤ h17.size := Nat.le_trans Z12 (Keep.of_wr W17).1
  have KK20 : Keep h0 h17 [a1, bi] := KK13.wr W17 (Or.inl (List.mem_of_getElem? (i := 0) rfl))
  have N21 := Fr.snoc X17 N10 g_a1
  have Fw17 := f15.same W17
  have J22 : ∀ t, Steps p.tables e below (T17.setTop (mkF m 38 #[.val (.ref a1), .val (.ref bd)] [(.ref a1)])) t → Steps p.tables e below (s₁.setTop (entryFrame m #[(.ref a1), (.ref bd)] 2)) t := fun t k => J18 t (by
      show Steps p.tables e below (T17.setTop (mkF m 37 #[.val (.ref a1), .val (.ref bd)] [])) _
      refine XS.aloadN X17.here hx rfl (hb hby d30_37) rfl rfl ?_
      exact k)
  obtain ⟨fs, hr, hrun, hended, hW, hsame⟩ := X17.leave (v := some (.ref a1)) (fun h => by rw [Bd.returns] at h; cases h)
  have f23 := f16.wr W17
  have f24 := F_cents_a1.keep K9 (ninS ne_a1_bi nin0)
  have f25 := f24.other W17 (Or.inr (slot_ne (Or.inl (hw _ (List.mem_of_getElem? (i := 16) rfl))) (Or.inl (hw _ (List.mem_of_getElem? (i := 18) rfl))) (by decide) (t := .long) (t' := (.object "java/math/BigDecimal")) (by decide) (by decide)))
  refine ⟨_, _, J22 _ ?_, hrun, hended, _, _, rfl, ?_, ⟨_, rfl⟩, hW, hsame.mono (by decide) (by decide)⟩
  · show Steps p.tables e below (T17.setTop (mkF m 38 #[.val (.ref a1), .val (.ref bd)] [(.ref a1)])) _
    jvm_step X17.here [X17.here.top, hx, (hb hby d30_38), X17.method', Bd.returns, Value.isRef, FieldType.isReference]
    first | (intro acts; rw [hr _ acts rfl rfl rfl]) | rw [hr _ _ rfl rfl rfl]
    exact Steps.refl _
  · show Q30 Z a1 bd bi mg mcl v1 u1 h0 n0 _ T17.heap _
    rw [e17]
    exact ⟨rfl, N21, KK20, f23, f25, Fw17⟩
theorem d4_0 : decode prog_84_method_5_code 0 = .ok (.aload_n 0, 1) := by decide +kernel
theorem d4_1 : decode prog_84_method_5_code 1 = .ok (.getfield 13, 3) := by decide +kernel
theorem d4_4 : decode prog_84_method_5_code 4 = .ok (.ifnonnull 27, 3) := by decide +kernel
theorem d4_7 : decode prog_84_method_5_code 7 = .ok (.aload_n 1, 1) := by decide +kernel
theorem d4_8 : decode prog_84_method_5_code 8 = .ok (.getfield 13, 3) := by decide +kernel
theorem d4_11 : decode prog_84_method_5_code 11 = .ok (.ifnonnull 20, 3) := by decide +kernel
theorem d4_14 : decode prog_84_method_5_code 14 = .ok (.aload_n 0, 1) := by decide +kernel
theorem d4_15 : decode prog_84_method_5_code 15 = .ok (.aload_n 0, 1) := by decide +kernel
theorem d4_16 : decode prog_84_method_5_code 16 = .ok (.getfield 7, 3) := by decide +kernel
theorem d4_19 : decode prog_84_method_5_code 19 = .ok (.aload_n 1, 1) := by decide +kernel
theorem d4_20 : decode prog_84_method_5_code 20 = .ok (.getfield 7, 3) := by decide +kernel
theorem d4_23 : decode prog_84_method_5_code 23 = .ok (.invokestatic 44, 3) := by decide +kernel
theorem d4_30 : decode prog_84_method_5_code 30 = .ok (.astore_n 2, 1) := by decide +kernel
theorem d4_31 : decode prog_84_method_5_code 31 = .ok (.aload_n 0, 1) := by decide +kernel
theorem d4_32 : decode prog_84_method_5_code 32 = .ok (.aload_n 0, 1) := by decide +kernel
theorem d4_33 : decode prog_84_method_5_code 33 = .ok (.invokevirtual 52, 3) := by decide +kernel
theorem pd_19 : parseMethodDescriptor "()Ljava/math/BigDecimal;" = some ⟨[], some (.object "java/math/BigDecimal")⟩ := by decide +kernel
theorem d4_36 : decode prog_84_method_5_code 36 = .ok (.aload_n 1, 1) := by decide +kernel
theorem d4_37 : decode prog_84_method_5_code 37 = .ok (.invokevirtual 52, 3) := by decide +kernel
theorem d4_40 : decode prog_84_method_5_code 40 = .ok (.invokevirtual 56, 3) := by decide +kernel
theorem pd_20 : parseMethodDescriptor "(Ljava/math/BigDecimal;)Ljava/math/BigDecimal;" = some ⟨[(.object "java/math/BigDecimal")], some (.object "java/math/BigDecimal")⟩ := by decide +kernel
theorem d4_43 : decode prog_84_method_5_code 43 = .ok (.invokevirtual 60, 3) := by decide +kernel
theorem pd_21 : parseMethodDescriptor "(Ljava/math/BigDecimal;)Lcom/example/tranche/tranche/model/Amount;" = some ⟨[(.object "java/math/BigDecimal")], some (.object "com/example/tranche/tranche/model/Amount")⟩ := by decide +kernel
theorem d4_46 : decode prog_84_method_5_code 46 = .ok (.areturn, 1) := by decide +kernel
theorem pn_4 : plainName "com/example/tranche/tranche/model/Amount" = true := by first | (simp [plainName, overriddenIn]; done) | decide +kernel
theorem ef_4_xx (m : MethodId) (x0 : Addr) (x1 : Addr) : entryFrame m #[(.ref x0), (.ref x1)] 3 = mkF m 0 #[.val (.ref x0), .val (.ref x1), .unset] [] := by first | (simp [entryFrame, mkF, argsToLocals, Value.category]; done) | rfl
def Q4 (Z : State) (a1 : Addr) (a2 : Addr) (us : Addr) (ss : Addr) (h0 : Heap) (n0 : Nat) (v : Option Value) (h : Heap) (L : List Loc) : Prop := ∃ (bd : Addr), v = some (.ref a1) ∧ Fr n0 L ∧ Keep h0 h [a1] ∧ (Exa Z h a1 "com/example/tranche/tranche/model/Amount") ∧ (Fld Z h a1 "com/example/tranche/tranche/model/Amount" "cents" "J" (.long (9223372036854775807 : Int64))) ∧ (Fld Z h a1 "com/example/tranche/tranche/model/Amount" "wide" "Ljava/math/BigDecimal;" (.ref bd))
set_option maxRecDepth 65536 in
set_option maxHeartbeats 40000000 in
theorem rm4 (l : Launch) (hl : l.stackTraces = true) (Z : State) (a0 : Array Value) (hw : ∀ d ∈ tables_1, d.before a0 Z = true) (ws : List Jvm.Cond) (a1 : Addr) (a2 : Addr) (us : Addr) (ss : Addr) (h0 : Heap) (n0 : Nat) (Z0 : n0 ≤ h0.size) (E_a1 : Exa Z h0 a1 "com/example/tranche/tranche/model/Amount") (g_a1 : n0 ≤ a1) (E_a2 : Exa Z h0 a2 "com/example/tranche/tranche/model/Amount") (ne_a1_a2 : a1 ≠ a2) (F_cents_a1 : Fld Z h0 a1 "com/example/tranche/tranche/model/Amount" "cents" "J" (.long (9223372036854775807 : Int64))) (F_wide_a1 : Fld Z h0 a1 "com/example/tranche/tranche/model/Amount" "wide" "Ljava/math/BigDecimal;" .null) (F_cents_a2 : Fld Z h0 a2 "com/example/tranche/tranche/model/Amount" "cents" "J" (.long (1 : Int64))) (F_wide_a2 : Fld Z h0 a2 "com/example/tranche/tranche/model/Amount" "wide" "Ljava/math/BigDecimal;" .null) (O : Old Z n0 h0) (Zs_UNASSIGNED_STACK : Sta Z Z.heap "java/lang/Throwable" "UNASSIGNED_STACK" "[Ljava/lang/StackTraceElement;" (.ref us)) (Zs_SUPPRESSED_SENTINEL : Sta Z Z.heap "java/lang/Throwable" "SUPPRESSED_SENTINEL" "Ljava/util/List;" (.ref ss)) (hM : MirrorMade Z "java/math/BigInteger") :
    MetFree l (⟨"com/example/tranche/tranche/model/Amount", "add", "(Lcom/example/tranche/tranche/model/Amount;)Lcom/example/tranche/tranche/model/Amount;"⟩ : MethodName) (head1 (Jvm.Cond.codeWith (⟨"com/example/tranche/tranche/model/Amount", "add", "(Lcom/example/tranche/tranche/model/Amount;)Lcom/example/tranche/tranche/model/Amount;"⟩ : MethodName) prog_84_method_5_code 3 (some (.object "com/example/tranche/tranche/model/Amount")) [(14, 29, 30, 50)] :: ws) ({ frames := 8, cells := 11, slots := 2845, locals := 113 } : Room)) (fun a U => a = #[(.ref a1), (.ref a2)] ∧ Z.Warmed39 U.vm ∧ U.heap = h0) (fun _ _ bl s _ => s.vm.MethodsKnown ∧ s.vm.FramesKnown bl) (fun _ U o U' => ∃ v L, o = .returned v ∧ Q4 Z a1 a2 us ss h0 n0 v U'.heap L ∧ ReturnedEndW U o U' L ({ frames := 8, cells := 11, slots := 2845, locals := 113 } : Room).cells ({ frames := 8, cells := 11, slots := 2845, locals := 113 } : Room).slots) := by
  refine MetFree.of_bodySF (plainFor_of_name pn_4) hisWith ?_
  intro p e s m args below meth c s₁ Bd hml0 hP hK
  obtain ⟨rfl, hZ, hh⟩ := hP
  have hx := Bd.exec
  have hby := Bd.bytes
  have hml : c.maxLocals = 3 := hml0
  have hown : s.vm.findClass "com/example/tranche/tranche/model/Amount" = some m.cls := findClass_of_methodNamed Bd.named
  have hnm := (name_of_methodNamed Bd.named Bd.method).1
  obtain ⟨hTK, hBelow⟩ := hK
  have hTK0 := hTK
  have hBelow0 := hBelow
  have own_wS : ∀ a ∈ Bundle.stringAtoms, a.before a0 Z = true := own_words hw
  have hSi : s.Since s.vm h0.size := (State.WarmedH.refl s).since _
  have kz : h0.size ≤ h0.size := Nat.le_refl _
  have hZ : Z.Warmed39 (s.setVm s.vm).vm := hZ
  have hown : (s.setVm s.vm).vm.findClass "com/example/tranche/tranche/model/Amount" = some m.cls := hown
  have hTK : (s.setVm s.vm).vm.MethodsKnown := hTK
  have hBelow : (s.setVm s.vm).vm.FramesKnown below := hBelow
  have X0 : Stand p l e ({ frames := 8, cells := 11, slots := 2845, locals := 113 } : Room) (s.setVm s.vm) m #[(.ref a1), (.ref a2)] below meth c s₁ [] 0 0 := Stand.of_body Bd
  have e0 : s₁.heap = h0 := by rw [← hh, Bd.state]; rfl
  have N0 := Fr.nil n0
  have pre0 : ∀ t, Steps p.tables e below (s₁.setTop (mkF m 0 #[.val (.ref a1), .val (.ref a2), .unset] [])) t → Steps p.tables e below (s₁.setTop (entryFrame m #[(.ref a1), (.ref a2)] 3)) t := fun t k => castTop (ef_4_xx m a1 a2) k
  obtain ⟨m', meth', c', qn, qm, qc, -, -, qt, -⟩ := Cond.codeWith_spec (mvT (args := #[]) hZ (hw _ (List.mem_of_getElem? (i := 23) rfl)))
  obtain rfl : m = m' := Option.some.inj (Bd.named.symm.trans qn)
  obtain rfl : meth = meth' := Option.some.inj (X0.method.symm.trans qm)
  obtain rfl : c = c' := Option.some.inj (X0.code.symm.trans qc)
  have htab : c.exceptionTable.toList = [⟨14, 29, 30, 50⟩] := by rw [← table_eq c.exceptionTable.toList, qt]; rfl
  have J1 : ∀ t, Steps p.tables e below (s₁.setTop (mkF m 1 #[.val (.ref a1), .val (.ref a2), .unset] [(.ref a1)])) t → Steps p.tables e below (s₁.setTop (entryFrame m #[(.ref a1), (.ref a2)] 3)) t := fun t k => pre0 t (by
      show Steps p.tables e below (s₁.setTop (mkF m 0 #[.val (.ref a1), .val (.ref a2), .unset] [])) _
      refine XS.aloadN X0.here hx rfl (hb hby d4_0) rfl rfl ?_
      exact k)
  obtain ⟨T2, X2, e2, st2⟩ := getF X0 hx hZ hown (host := "") (Or.inl (hw _ (List.mem_of_getElem? (i := 17) rfl))) Via.refl e0 F_wide_a1 (g := (mkF m 1 #[.val (.ref a1), .val (.ref a2), .unset] [(.ref a1)])) rfl rfl (hb hby d4_1)
  have J3 : ∀ t, Steps p.tables e below (T2.setTop (mkF m 4 #[.val (.ref a1), .val (.ref a2), .unset] [.null])) t → Steps p.tables e below (s₁.setTop (entryFrame m #[(.ref a1), (.ref a2)] 3)) t := fun t k => J1 t (st2 t k)
  have J4 : ∀ t, Steps p.tables e below (T2.setTop (mkF m 8 #[.val (.ref a1), .val (.ref a2), .unset] [(.ref a2)])) t → Steps p.tables e below (s₁.setTop (entryFrame m #[(.ref a1), (.ref a2)] 3)) t := fun t k => J3 t (by
      show Steps p.tables e below (T2.setTop (mkF m 4 #[.val (.ref a1), .val (.ref a2), .unset] [.null])) _
      refine XS.ifnonnullNo X2.here hx rfl (hb hby d4_4) rfl ?_
      show Steps p.tables e below (T2.setTop (mkF m 7 #[.val (.ref a1), .val (.ref a2), .unset] [])) _
      refine XS.aloadN X2.here hx rfl (hb hby d4_7) rfl rfl ?_
      exact k)
  obtain ⟨T5, X5, e5, st5⟩ := getF X2 hx hZ hown (host := "") (Or.inl (hw _ (List.mem_of_getElem? (i := 17) rfl))) Via.refl e2 F_wide_a2 (g := (mkF m 8 #[.val (.ref a1), .val (.ref a2), .unset] [(.ref a2)])) rfl rfl (hb hby d4_8)
  have J6 : ∀ t, Steps p.tables e below (T5.setTop (mkF m 11 #[.val (.ref a1), .val (.ref a2), .unset] [.null])) t → Steps p.tables e below (s₁.setTop (entryFrame m #[(.ref a1), (.ref a2)] 3)) t := fun t k => J4 t (st5 t k)
  have J7 : ∀ t, Steps p.tables e below (T5.setTop (mkF m 16 #[.val (.ref a1), .val (.ref a2), .unset] [(.ref a1), (.ref a1)])) t → Steps p.tables e below (s₁.setTop (entryFrame m #[(.ref a1), (.ref a2)] 3)) t := fun t k => J6 t (by
      show Steps p.tables e below (T5.setTop (mkF m 11 #[.val (.ref a1), .val (.ref a2), .unset] [.null])) _
      refine XS.ifnonnullNo X5.here hx rfl (hb hby d4_11) rfl ?_
      show Steps p.tables e below (T5.setTop (mkF m 14 #[.val (.ref a1), .val (.ref a2), .unset] [])) _
      refine XS.aloadN X5.here hx rfl (hb hby d4_14) rfl rfl ?_
      show Steps p.tables e below (T5.setTop (mkF m 15 #[.val (.ref a1), .val (.ref a2), .unset] [(.ref a1)])) _
      refine XS.aloadN X5.here hx rfl (hb hby d4_15) rfl rfl ?_
      exact k)
  obtain ⟨T8, X8, e8, st8⟩ := getF X5 hx hZ hown (host := "") (Or.inl (hw _ (List.mem_of_getElem? (i := 15) rfl))) Via.refl e5 F_cents_a1 (g := (mkF m 16 #[.val (.ref a1), .val (.ref a2), .unset] [(.ref a1), (.ref a1)])) rfl rfl (hb hby d4_16)
  have J9 : ∀ t, Steps p.tables e below (T8.setTop (mkF m 19 #[.val (.ref a1), .val (.ref a2), .unset] [(.long (9223372036854775807 : Int64)), (.ref a1)])) t → Steps p.tables e below (s₁.setTop (entryFrame m #[(.ref a1), (.ref a2)] 3)) t := fun t k => J7 t (st8 t k)
  have J10 : ∀ t, Steps p.tables e below (T8.setTop (mkF m 20 #[.val (.ref a1), .val (.ref a2), .unset] [(.ref a2), (.long (9223372036854775807 : Int64)), (.ref a1)])) t → Steps p.tables e below (s₁.setTop (entryFrame m #[(.ref a1), (.ref a2)] 3)) t := fun t k => J9 t (by
      show Steps p.tables e below (T8.setTop (mkF m 19 #[.val (.ref a1), .val (.ref a2), .unset] [(.long (9223372036854775807 : Int64)), (.ref a1)])) _
      refine XS.aloadN X8.here hx rfl (hb hby d4_19) rfl rfl ?_
      exact k)
  obtain ⟨T11, X11, e11, st11⟩ := getF X8 hx hZ hown (host := "") (Or.inl (hw _ (List.mem_of_getElem? (i := 15) rfl))) Via.refl e8 F_cents_a2 (g := (mkF m 20 #[.val (.ref a1), .val (.ref a2), .unset] [(.ref a2), (.long (9223372036854775807 : Int64)), (.ref a1)])) rfl rfl (hb hby d4_20)
  have J12 : ∀ t, Steps p.tables e below (T11.setTop (mkF m 23 #[.val (.ref a1), .val (.ref a2), .unset] [(.long (1 : Int64)), (.long (9223372036854775807 : Int64)), (.ref a1)])) t → Steps p.tables e below (s₁.setTop (entryFrame m #[(.ref a1), (.ref a2)] 3)) t := fun t k => J10 t (st11 t k)
  obtain ⟨b13, vm13, T13, h13, X13, e13, E13, hS13, st13⟩ := own_caught X11 hx hZ (y := (⟨"java/lang/Math", "addExact", "(JJ)J"⟩ : MethodName)) hown (hw _ (List.mem_of_getElem? (i := 24) rfl)) (hw _ (List.mem_of_getElem? (i := 25) rfl)) (hw _ (List.mem_of_getElem? (i := 26) rfl)) (hw _ (List.mem_of_getElem? (i := 27) rfl)) (by decide) (rm5 l hl Z a0 hw [] us ss h0 n0 Z0 O Zs_UNASSIGNED_STACK Zs_SUPPRESSED_SENTINEL) hTK hBelow e11 (g := (mkF m 23 #[.val (.ref a1), .val (.ref a2), .unset] [(.long (1 : Int64)), (.long (9223372036854775807 : Int64)), (.ref a1)])) rfl (by rw [hml]; rfl) (argsL := [(.long (9223372036854775807 : Int64)), (.long (1 : Int64))]) (rest := [(.ref a1)]) (lenOf pd_11 rfl) rfl rfl (hb hby d4_23) (by decide) (W := 1) (by show 2 * 0 + _ ≤ _; exact Nat.le_of_eq rfl) (by decide) (by decide : 0 + 4 ≤ _) (by decide : 0 + 2814 ≤ _) ⟨14, 29, 30, 50⟩ htab (by show covers ⟨14, 29, 30, 50⟩ 23 = true; decide) (by decide) (hw _ (List.mem_of_getElem? (i := 97) rfl))
  obtain ⟨X13, hSi, hZ, hown⟩ := rebS hSi kz X13 hS13 E13.1 hZ hown
  have kz : h13.size ≤ h13.size := Nat.le_refl _
  have hTK := Vm.MethodsKnown.alikeC hSi.1.alike hTK0
  have hBelow := Vm.FramesKnown.alikeC hSi.1.alike hBelow0
  have J14 : ∀ t, Steps p.tables e below (T13.setTop (mkF m 30 #[.val (.ref a1), .val (.ref a2), .unset] [(.ref b13)])) t → Steps p.tables e below (s₁.setTop (entryFrame m #[(.ref a1), (.ref a2)] 3)) t := fun t k => J12 t (st13 t k)
  have Z15 : n0 ≤ h13.size := Nat.le_trans Z0 E13.1
  have KK16 : Keep h0 h13 [a1] := (Keep.refl h0 [a1]).ext E13
  have J17 : ∀ t, Steps p.tables e below (T13.setTop (mkF m 33 #[.val (.ref a1), .val (.ref a2), .val (.ref b13)] [(.ref a1), (.ref a1)])) t → Steps p.tables e below (s₁.setTop (entryFrame m #[(.ref a1), (.ref a2)] 3)) t := fun t k => J14 t (by
      show Steps p.tables e below (T13.setTop (mkF m 30 #[.val (.ref a1), .val (.ref a2), .unset] [(.ref b13)])) _
      refine XS.astoreN X13.here hx rfl (hb hby d4_30) rfl rfl (l' := #[.val (.ref a1), .val (.ref a2), .val (.ref b13)]) rfl ?_
      show Steps p.tables e below (T13.setTop (mkF m 31 #[.val (.ref a1), .val (.ref a2), .val (.ref b13)] [])) _
      refine XS.aloadN X13.here hx rfl (hb hby d4_31) rfl rfl ?_
      show Steps p.tables e below (T13.setTop (mkF m 32 #[.val (.ref a1), .val (.ref a2), .val (.ref b13)] [(.ref a1)])) _
      refine XS.aloadN X13.here hx rfl (hb hby d4_32) rfl rfl ?_
      exact k)
  have f18 := E_a1.ext E13
  have f19 := E_a2.ext E13
  have f20 := F_cents_a1.ext E13
  have f21 := F_wide_a1.ext E13
  obtain ⟨cq22, kq22, q22a, q22b, q22c⟩ := isOf hZ e13 f18
  obtain ⟨_, _, ⟨T22, L22, k22, n22⟩, -, X22, ⟨Lc22, hQ22, l22, y22, z22⟩, st22⟩ := X13.virtualBack hx (y := (⟨"com/example/tranche/tranche/model/Amount", "toBigDecimal", "()Ljava/math/BigDecimal;"⟩ : MethodName)) (z := (⟨"com/example/tranche/tranche/model/Amount", "toBigDecimal", "()Ljava/math/BigDecimal;"⟩ : MethodName)) hown (mvT hZ (hw _ (List.mem_of_getElem? (i := 98) rfl))) (mvT hZ (hw _ (List.mem_of_getElem? (i := 99) rfl))) (notFace_of_selects (args := #[]) (mvT hZ (hw _ (List.mem_of_getElem? (i := 101) rfl)))) (mvT hZ (hw _ (List.mem_of_getElem? (i := 101) rfl))) (mvT hZ (hw _ (List.mem_of_getElem? (i := 100) rfl))) (by decide) (backOf (W := 1) (rm12 l Z a0 hw [] a1 (9223372036854775807 : Int64) h13 n0 Z15 f18 f20 f21 (by decide) (by decide)) hZ (hw _ (List.mem_of_getElem? (i := 102) rfl)) (hw _ (List.mem_of_getElem? (i := 2) rfl)) (by decide) (by decide)) q22a q22c (g := (mkF m 33 #[.val (.ref a1), .val (.ref a2), .val (.ref b13)] [(.ref a1), (.ref a1)])) rfl (by rw [hml]; rfl) (Steps.refl _) (argsL := []) (rest := [(.ref a1)]) (lenOf pd_19 rfl) rfl (by show 2 * 0 + _ ≤ _; exact Nat.le_of_eq rfl) (hb hby d4_33) (fun _ _ => ⟨rfl, e13, (by decide : 4 + 1 ≤ _), (by decide : 2814 + 5 ≤ _)⟩)
  dsimp only [Pt.U, Pt.locs, Pt.cells, Pt.slots] at X22 l22 y22 z22 st22 hQ22
  subst y22 z22
  obtain ⟨bd_22, rfl, Nq22, K22, p22_1, p22_2, p22_3, p22_4, p22_5⟩ := hQ22
  have N23 : Fr n0 L22 := by rw [l22]; exact Fr.app N0 Nq22
  have J24 : ∀ t, Steps p.tables e below (T22.setTop (mkF m 36 #[.val (.ref a1), .val (.ref a2), .val (.ref b13)] [(.ref bd_22), (.ref a1)])) t → Steps p.tables e below (s₁.setTop (entryFrame m #[(.ref a1), (.ref a2)] 3)) t := fun t k => J17 t (st22.trans k)
  have Z25 : n0 ≤ T22.heap.size := Nat.le_trans Z15 K22.1
  have kz := Nat.le_trans kz K22.1
  have KK26 : Keep h0 T22.heap [a1] := KK16.trans K22 all0
  have J27 : ∀ t, Steps p.tables e below (T22.setTop (mkF m 37 #[.val (.ref a1), .val (.ref a2), .val (.ref b13)] [(.ref a2), (.ref bd_22), (.ref a1)])) t → Steps p.tables e below (s₁.setTop (entryFrame m #[(.ref a1), (.ref a2)] 3)) t := fun t k => J24 t (by
      show Steps p.tables e below (T22.setTop (mkF m 36 #[.val (.ref a1), .val (.ref a2), .val (.ref b13)] [(.ref bd_22), (.ref a1)])) _
      refine XS.aloadN X22.here hx rfl (hb hby d4_36) rfl rfl ?_
      exact k)
  have f28 := f18.keep K22
  have f29 := f19.keep K22
  have f30 := F_cents_a2.ext E13
  have f31 := f30.keep K22 nin0
  have f32 := F_wide_a2.ext E13
  have f33 := f32.keep K22 nin0
  obtain ⟨cq34, kq34, q34a, q34b, q34c⟩ := isOf hZ rfl f29
  obtain ⟨_, _, ⟨T34, L34, k34, n34⟩, -, X34, ⟨Lc34, hQ34, l34, y34, z34⟩, st34⟩ := X22.virtualBack hx (y := (⟨"com/example/tranche/tranche/model/Amount", "toBigDecimal", "()Ljava/math/BigDecimal;"⟩ : MethodName)) (z := (⟨"com/example/tranche/tranche/model/Amount", "toBigDecimal", "()Ljava/math/BigDecimal;"⟩ : MethodName)) hown (mvT hZ (hw _ (List.mem_of_getElem? (i := 98) rfl))) (mvT hZ (hw _ (List.mem_of_getElem? (i := 99) rfl))) (notFace_of_selects (args := #[]) (mvT hZ (hw _ (List.mem_of_getElem? (i := 101) rfl)))) (mvT hZ (hw _ (List.mem_of_getElem? (i := 101) rfl))) (mvT hZ (hw _ (List.mem_of_getElem? (i := 100) rfl))) (by decide) (backOf (W := 2) (rm12 l Z a0 hw [] a2 (1 : Int64) T22.heap n0 Z25 f29 f31 f33 (by decide) (by decide)) hZ (hw _ (List.mem_of_getElem? (i := 102) rfl)) (hw _ (List.mem_of_getElem? (i := 2) rfl)) (by decide) (by decide)) q34a q34c (g := (mkF m 37 #[.val (.ref a1), .val (.ref a2), .val (.ref b13)] [(.ref a2), (.ref bd_22), (.ref a1)])) rfl (by rw [hml]; rfl) (Steps.refl _) (argsL := []) (rest := [(.ref bd_22), (.ref a1)]) (lenOf pd_19 rfl) rfl (by show 2 * 0 + _ ≤ _; exact Nat.le_of_eq rfl) (hb hby d4_37) (fun _ _ => ⟨rfl, rfl, (by decide : 5 + 1 ≤ _), (by decide : 2819 + 5 ≤ _)⟩)
  dsimp only [Pt.U, Pt.locs, Pt.cells, Pt.slots] at X34 l34 y34 z34 st34 hQ34
  subst y34 z34
  obtain ⟨bd_34, rfl, Nq34, K34, p34_1, p34_2, p34_3, p34_4, p34_5⟩ := hQ34
  have N35 : Fr n0 L34 := by rw [l34]; exact Fr.app N23 Nq34
  have J36 : ∀ t, Steps p.tables e below (T34.setTop (mkF m 40 #[.val (.ref a1), .val (.ref a2), .val (.ref b13)] [(.ref bd_34), (.ref bd_22), (.ref a1)])) t → Steps p.tables e below (s₁.setTop (entryFrame m #[(.ref a1), (.ref a2)] 3)) t := fun t k => J27 t (st34.trans k)
  have Z37 : n0 ≤ T34.heap.size := Nat.le_trans Z25 K34.1
  have kz := Nat.le_trans kz K34.1
  have KK38 : Keep h0 T34.heap [a1] := KK26.trans K34 all0
  have f39 := f28.keep K34
  have f40 := f29.keep K34
  have f41 := p22_1.keep K34
  have f42 := p22_2.keep K34 nin0
  have f43 := p22_3.keep K34 nin0
  have f44 := p22_4.keep K34 nin0
  obtain ⟨cq45, kq45, q45a, q45b, q45c⟩ := isOf hZ rfl f41
  obtain ⟨_, _, ⟨T45, L45, k45, n45⟩, -, X45, ⟨Lc45, hQ45, l45, y45, z45⟩, st45⟩ := X34.virtualBack hx (y := (⟨"java/math/BigDecimal", "add", "(Ljava/math/BigDecimal;)Ljava/math/BigDecimal;"⟩ : MethodName)) (z := (⟨"java/math/BigDecimal", "add", "(Ljava/math/BigDecimal;)Ljava/math/BigDecimal;"⟩ : MethodName)) hown (mvT hZ (hw _ (List.mem_of_getElem? (i := 129) rfl))) (mvT hZ (hw _ (List.mem_of_getElem? (i := 130) rfl))) (notFace_of_selects (args := #[]) (mvT hZ (hw _ (List.mem_of_getElem? (i := 132) rfl)))) (mvT hZ (hw _ (List.mem_of_getElem? (i := 132) rfl))) (mvT hZ (hw _ (List.mem_of_getElem? (i := 131) rfl))) (by decide) (backOf (W := 1) (rm16 l Z a0 hw [] bd_22 bd_34 T34.heap n0 Z37 f41 f42 f43 f44 p34_2 p34_3 p34_4 (by assumption)) hZ (hw _ (List.mem_of_getElem? (i := 133) rfl)) (hw _ (List.mem_of_getElem? (i := 105) rfl)) (by decide) (by decide)) q45a q45c (g := (mkF m 40 #[.val (.ref a1), .val (.ref a2), .val (.ref b13)] [(.ref bd_34), (.ref bd_22), (.ref a1)])) rfl (by rw [hml]; rfl) (Steps.refl _) (argsL := [(.ref bd_34)]) (rest := [(.ref a1)]) (lenOf pd_20 rfl) rfl (by show 2 * 0 + _ ≤ _; exact Nat.le_of_eq rfl) (hb hby d4_40) (fun _ _ => ⟨rfl, rfl, (by decide : 6 + 5 ≤ _), (by decide : 2824 + 21 ≤ _)⟩)
  dsimp only [Pt.U, Pt.locs, Pt.cells, Pt.slots] at X45 l45 y45 z45 st45 hQ45
  subst y45 z45
  obtain ⟨bd_45, bi_45, mg_45, mcl_45, rfl, Nq45, K45, p45_1, p45_2, p45_3, p45_4, p45_5, p45_6, p45_7, p45_8, p45_9, p45_10, p45_11, p45_12, p45_13, p45_14, p45_15, p45_16, p45_17, p45_18, p45_19⟩ := hQ45
  have N46 : Fr n0 L45 := by rw [l45]; exact Fr.app N35 Nq45
  have J47 : ∀ t, Steps p.tables e below (T45.setTop (mkF m 43 #[.val (.ref a1), .val (.ref a2), .val (.ref b13)] [(.ref bd_45), (.ref a1)])) t → Steps p.tables e below (s₁.setTop (entryFrame m #[(.ref a1), (.ref a2)] 3)) t := fun t k => J36 t (st45.trans k)
  have Z48 : n0 ≤ T45.heap.size := Nat.le_trans Z37 K45.1
  have kz := Nat.le_trans kz K45.1
  have KK49 : Keep h0 T45.heap [a1] := KK38.trans K45 all0
  have f50 := f39.keep K45
  have f51 := f20.keep K22 nin0
  have f52 := f51.keep K34 nin0
  have f53 := f52.keep K45 nin0
  have f54 := f21.keep K22 nin0
  have f55 := f54.keep K34 nin0
  have f56 := f55.keep K45 nin0
  obtain ⟨cq57, kq57, q57a, q57b, q57c⟩ := isOf hZ rfl f50
  obtain ⟨_, _, ⟨T57, L57, k57, n57⟩, -, X57, ⟨Lc57, hQ57, l57, y57, z57⟩, st57⟩ := X45.virtualBack hx (y := (⟨"com/example/tranche/tranche/model/Amount", "set", "(Ljava/math/BigDecimal;)Lcom/example/tranche/tranche/model/Amount;"⟩ : MethodName)) (z := (⟨"com/example/tranche/tranche/model/Amount", "set", "(Ljava/math/BigDecimal;)Lcom/example/tranche/tranche/model/Amount;"⟩ : MethodName)) hown (mvT hZ (hw _ (List.mem_of_getElem? (i := 197) rfl))) (mvT hZ (hw _ (List.mem_of_getElem? (i := 198) rfl))) (notFace_of_selects (args := #[]) (mvT hZ (hw _ (List.mem_of_getElem? (i := 200) rfl)))) (mvT hZ (hw _ (List.mem_of_getElem? (i := 200) rfl))) (mvT hZ (hw _ (List.mem_of_getElem? (i := 199) rfl))) (by decide) (backOf (W := 0) (rm30 l Z a0 hw [] a1 bd_45 bi_45 mg_45 mcl_45 (.long (9223372036854775807 : Int64)) .null T45.heap n0 Z48 f50 g_a1 p45_19 f53 f56 p45_1 p45_2 p45_4 p45_5 p45_6 p45_7 p45_8 p45_9 p45_10 p45_11 p45_12 (Nat.ne_of_lt (Nat.lt_of_lt_of_le f39.lt p45_14)) (Nat.ne_of_lt (Nat.lt_of_lt_of_le f39.lt p45_13)) p45_16 p45_18) hZ (hw _ (List.mem_of_getElem? (i := 201) rfl)) (hw _ (List.mem_of_getElem? (i := 2) rfl)) (by decide) (by decide)) q57a q57c (g := (mkF m 43 #[.val (.ref a1), .val (.ref a2), .val (.ref b13)] [(.ref bd_45), (.ref a1)])) rfl (by rw [hml]; rfl) (Steps.refl _) (argsL := [(.ref bd_45)]) (rest := []) (lenOf pd_21 rfl) rfl (by show 2 * 0 + _ ≤ _; exact Nat.le_of_eq rfl) (hb hby d4_43) (fun _ _ => ⟨rfl, rfl, (by decide : 11 + 0 ≤ _), (by decide : 2845 + 0 ≤ _)⟩)
  dsimp only [Pt.U, Pt.locs, Pt.cells, Pt.slots] at X57 l57 y57 z57 st57 hQ57
  subst y57 z57
  obtain ⟨rfl, Nq57, K57, p57_1, p57_2, p57_3⟩ := hQ57
  have N58 : Fr n0 L57 := by rw [l57]; exact Fr.app N46 Nq57
  have J59 : ∀ t, Steps p.tables e below (T57.setTop (mkF m 46 #[.val (.ref a1), .val (.ref a2), .val (.ref b13)] [(.ref a1)])) t → Steps p.tables e below (s₁.setTop (entryFrame m #[(.ref a1), (.ref a2)] 3)) t := fun t k => J47 t (st57.trans k)
  have Z60 : n0 ≤ T57.heap.size := Nat.le_trans Z48 K57.1
  have kz := Nat.le_trans kz K57.1
  have KK61 : Keep h0 T57.heap [a1] := KK49.trans K57 (allS (Or.inl (List.mem_of_getElem? (i := 0) rfl)) (allS (Or.inr (Nat.le_trans KK38.1 p45_14)) all0))
  obtain ⟨fs, hr, hrun, hended, hWW⟩ := X57.leaveW hSi kz (v := some (.ref a1)) (fun h => by rw [Bd.returns] at h; cases h)
  refine ⟨_, _, J59 _ ?_, hrun, hended, _, _, rfl, ?_, hWW.1, hWW.2.1, hWW.2.2.1, hWW.2.2.2.mono (by decide) (by decide)⟩
  · show Steps p.tables e below (T57.setTop (mkF m 46 #[.val (.ref a1), .val (.ref a2), .val (.ref b13)] [(.ref a1)])) _
    jvm_step X57.here [X57.here.top, hx, (hb hby d4_46), X57.method', Bd.returns, Value.isRef, FieldType.isReference]
    first | (intro acts; rw [hr _ acts rfl rfl rfl]) | rw [hr _ _ rfl rfl rfl]
    exact Steps.refl _
  · show Q4 Z a1 a2 us ss h0 n0 _ T57.heap _
    exact ⟨bd_45, rfl, N58, KK61, p57_1, p57_2, p57_3⟩
theorem d37_0 : decode prog_84_method_9_code 0 = .ok (.aload_n 0, 1) := by decide +kernel
theorem d37_1 : decode prog_84_method_9_code 1 = .ok (.getfield 13, 3) := by decide +kernel
theorem d37_4 : decode prog_84_method_9_code 4 = .ok (.ifnonnull 7, 3) := by decide +kernel
theorem d37_7 : decode prog_84_method_9_code 7 = .ok (.iconst 1, 1) := by decide +kernel
theorem d37_8 : decode prog_84_method_9_code 8 = .ok (.goto 4, 3) := by decide +kernel
theorem d37_12 : decode prog_84_method_9_code 12 = .ok (.ireturn, 1) := by decide +kernel
theorem pn_37 : plainName "com/example/tranche/tranche/model/Amount" = true := by first | (simp [plainName, overriddenIn]; done) | decide +kernel
theorem ef_37_x (m : MethodId) (x0 : Addr) : entryFrame m #[(.ref x0)] 1 = mkF m 0 #[.val (.ref x0)] [] := by first | (simp [entryFrame, mkF, argsToLocals, Value.category]; done) | rfl
def Q37 (Z : State) (a1 : Addr) (h0 : Heap) (n0 : Nat) (v : Option Value) (h : Heap) (L : List Loc) : Prop := v = some (.int (1 : Int32)) ∧ Fr n0 L ∧ h = h0
set_option maxRecDepth 65536 in
set_option maxHeartbeats 40000000 in
theorem rm37 (l : Launch) (Z : State) (a0 : Array Value) (hw : ∀ d ∈ tables_1, d.before a0 Z = true) (ws : List Jvm.Cond) (a1 : Addr) (h0 : Heap) (n0 : Nat) (Z0 : n0 ≤ h0.size) (F_wide_a1 : Fld Z h0 a1 "com/example/tranche/tranche/model/Amount" "wide" "Ljava/math/BigDecimal;" .null) :
    MetFree l (⟨"com/example/tranche/tranche/model/Amount", "inCents", "()Z"⟩ : MethodName) (head1 (Jvm.Cond.code (⟨"com/example/tranche/tranche/model/Amount", "inCents", "()Z"⟩ : MethodName) prog_84_method_9_code 1 (some .boolean) :: ws) ({ frames := 0, cells := 0, slots := 0, locals := 0 } : Room)) (fun a U => a = #[(.ref a1)] ∧ Z.Warmed39 U.vm ∧ U.heap = h0) (fun _ _ _ _ _ => True) (fun _ U o U' => ∃ v L, o = .returned v ∧ Q37 Z a1 h0 n0 v U'.heap L ∧ FrameEnd U o U' L ({ frames := 0, cells := 0, slots := 0, locals := 0 } : Room).cells ({ frames := 0, cells := 0, slots := 0, locals := 0 } : Room).slots) := by
  refine MetFree.of_bodySF (plainFor_of_name pn_37) hisR ?_
  intro p e s m args below meth c s₁ Bd hml0 hP hK
  obtain ⟨rfl, hZ, hh⟩ := hP
  have hx := Bd.exec
  have hby := Bd.bytes
  have hml : c.maxLocals = 1 := hml0
  have hown : s.vm.findClass "com/example/tranche/tranche/model/Amount" = some m.cls := findClass_of_methodNamed Bd.named
  have hnm := (name_of_methodNamed Bd.named Bd.method).1
  have X0 : Stand p l e ({ frames := 0, cells := 0, slots := 0, locals := 0 } : Room) s m #[(.ref a1)] below meth c s₁ [] 0 0 := Stand.of_body Bd
  have e0 : s₁.heap = h0 := by rw [← hh, Bd.state]; rfl
  have N0 := Fr.nil n0
  have pre0 : ∀ t, Steps p.tables e below (s₁.setTop (mkF m 0 #[.val (.ref a1)] [])) t → Steps p.tables e below (s₁.setTop (entryFrame m #[(.ref a1)] 1)) t := fun t k => castTop (ef_37_x m a1) k
  have J1 : ∀ t, Steps p.tables e below (s₁.setTop (mkF m 1 #[.val (.ref a1)] [(.ref a1)])) t → Steps p.tables e below (s₁.setTop (entryFrame m #[(.ref a1)] 1)) t := fun t k => pre0 t (by
      show Steps p.tables e below (s₁.setTop (mkF m 0 #[.val (.ref a1)] [])) _
      refine XS.aloadN X0.here hx rfl (hb hby d37_0) rfl rfl ?_
      exact k)
  obtain ⟨T2, X2, e2, st2⟩ := getF X0 hx hZ hown (host := "") (Or.inl (hw _ (List.mem_of_getElem? (i := 17) rfl))) Via.refl e0 F_wide_a1 (g := (mkF m 1 #[.val (.ref a1)] [(.ref a1)])) rfl rfl (hb hby d37_1)
  have J3 : ∀ t, Steps p.tables e below (T2.setTop (mkF m 4 #[.val (.ref a1)] [.null])) t → Steps p.tables e below (s₁.setTop (entryFrame m #[(.ref a1)] 1)) t := fun t k => J1 t (st2 t k)
  have J4 : ∀ t, Steps p.tables e below (T2.setTop (mkF m 12 #[.val (.ref a1)] [(.int (1 : Int32))])) t → Steps p.tables e below (s₁.setTop (entryFrame m #[(.ref a1)] 1)) t := fun t k => J3 t (by
      show Steps p.tables e below (T2.setTop (mkF m 4 #[.val (.ref a1)] [.null])) _
      refine XS.ifnonnullNo X2.here hx rfl (hb hby d37_4) rfl ?_
      show Steps p.tables e below (T2.setTop (mkF m 7 #[.val (.ref a1)] [])) _
      refine XS.iconst X2.here hx rfl (hb hby d37_7) ?_
      show Steps p.tables e below (T2.setTop (mkF m 8 #[.val (.ref a1)] [(.int (1 : Int32))])) _
      refine XS.goto X2.here hx rfl (pc0 := 8) (pc' := 12) rfl (hb hby d37_8) (by decide) (by decide) ?_
      exact k)
  obtain ⟨fs, hr, hrun, hended, hW, hsame⟩ := X2.leave (v := some (.int (1 : Int32))) (fun h => by rw [Bd.returns] at h; cases h)
  refine ⟨_, _, J4 _ ?_, hrun, hended, _, _, rfl, ?_, ⟨_, rfl⟩, hW, hsame.mono (by decide) (by decide)⟩
  · show Steps p.tables e below (T2.setTop (mkF m 12 #[.val (.ref a1)] [(.int (1 : Int32))])) _
    exact retN X2 hx (t := .boolean) Bd.returns (by simp) (hb hby d37_12) hr
  · show Q37 Z a1 h0 n0 _ T2.heap _
    rw [e2]
    exact ⟨rfl, N0, rfl⟩
theorem d38_0 : decode prog_84_method_10_code 0 = .ok (.aload_n 0, 1) := by decide +kernel
theorem d38_1 : decode prog_84_method_10_code 1 = .ok (.getfield 13, 3) := by decide +kernel
theorem d38_4 : decode prog_84_method_10_code 4 = .ok (.ifnull 23, 3) := by decide +kernel
theorem d38_27 : decode prog_84_method_10_code 27 = .ok (.aload_n 0, 1) := by decide +kernel
theorem d38_28 : decode prog_84_method_10_code 28 = .ok (.getfield 7, 3) := by decide +kernel
theorem d38_31 : decode prog_84_method_10_code 31 = .ok (.lreturn, 1) := by decide +kernel
theorem pn_38 : plainName "com/example/tranche/tranche/model/Amount" = true := by first | (simp [plainName, overriddenIn]; done) | decide +kernel
theorem ef_38_x (m : MethodId) (x0 : Addr) : entryFrame m #[(.ref x0)] 1 = mkF m 0 #[.val (.ref x0)] [] := by first | (simp [entryFrame, mkF, argsToLocals, Value.category]; done) | rfl
def Q38 (Z : State) (a1 : Addr) (v1 : Int64) (h0 : Heap) (n0 : Nat) (v : Option Value) (h : Heap) (L : List Loc) : Prop := v = some (.long v1) ∧ Fr n0 L ∧ h = h0
set_option maxRecDepth 65536 in
set_option maxHeartbeats 40000000 in
theorem rm38 (l : Launch) (Z : State) (a0 : Array Value) (hw : ∀ d ∈ tables_1, d.before a0 Z = true) (ws : List Jvm.Cond) (a1 : Addr) (v1 : Int64) (h0 : Heap) (n0 : Nat) (Z0 : n0 ≤ h0.size) (F_cents_a1 : Fld Z h0 a1 "com/example/tranche/tranche/model/Amount" "cents" "J" (.long v1)) (F_wide_a1 : Fld Z h0 a1 "com/example/tranche/tranche/model/Amount" "wide" "Ljava/math/BigDecimal;" .null) :
    MetFree l (⟨"com/example/tranche/tranche/model/Amount", "cents", "()J"⟩ : MethodName) (head1 (Jvm.Cond.code (⟨"com/example/tranche/tranche/model/Amount", "cents", "()J"⟩ : MethodName) prog_84_method_10_code 1 (some .long) :: ws) ({ frames := 0, cells := 0, slots := 0, locals := 0 } : Room)) (fun a U => a = #[(.ref a1)] ∧ Z.Warmed39 U.vm ∧ U.heap = h0) (fun _ _ _ _ _ => True) (fun _ U o U' => ∃ v L, o = .returned v ∧ Q38 Z a1 v1 h0 n0 v U'.heap L ∧ FrameEnd U o U' L ({ frames := 0, cells := 0, slots := 0, locals := 0 } : Room).cells ({ frames := 0, cells := 0, slots := 0, locals := 0 } : Room).slots) := by
  refine MetFree.of_bodySF (plainFor_of_name pn_38) hisR ?_
  intro p e s m args below meth c s₁ Bd hml0 hP hK
  obtain ⟨rfl, hZ, hh⟩ := hP
  have hx := Bd.exec
  have hby := Bd.bytes
  have hml : c.maxLocals = 1 := hml0
  have hown : s.vm.findClass "com/example/tranche/tranche/model/Amount" = some m.cls := findClass_of_methodNamed Bd.named
  have hnm := (name_of_methodNamed Bd.named Bd.method).1
  have X0 : Stand p l e ({ frames := 0, cells := 0, slots := 0, locals := 0 } : Room) s m #[(.ref a1)] below meth c s₁ [] 0 0 := Stand.of_body Bd
  have e0 : s₁.heap = h0 := by rw [← hh, Bd.state]; rfl
  have N0 := Fr.nil n0
  have pre0 : ∀ t, Steps p.tables e below (s₁.setTop (mkF m 0 #[.val (.ref a1)] [])) t → Steps p.tables e below (s₁.setTop (entryFrame m #[(.ref a1)] 1)) t := fun t k => castTop (ef_38_x m a1) k
  have J1 : ∀ t, Steps p.tables e below (s₁.setTop (mkF m 1 #[.val (.ref a1)] [(.ref a1)])) t → Steps p.tables e below (s₁.setTop (entryFrame m #[(.ref a1)] 1)) t := fun t k => pre0 t (by
      show Steps p.tables e below (s₁.setTop (mkF m 0 #[.val (.ref a1)] [])) _
      refine XS.aloadN X0.here hx rfl (hb hby d38_0) rfl rfl ?_
      exact k)
  obtain ⟨T2, X2, e2, st2⟩ := getF X0 hx hZ hown (host := "") (Or.inl (hw _ (List.mem_of_getElem? (i := 17) rfl))) Via.refl e0 F_wide_a1 (g := (mkF m 1 #[.val (.ref a1)] [(.ref a1)])) rfl rfl (hb hby d38_1)
  have J3 : ∀ t, Steps p.tables e below (T2.setTop (mkF m 4 #[.val (.ref a1)] [.null])) t → Steps p.tables e below (s₁.setTop (entryFrame m #[(.ref a1)] 1)) t := fun t k => J1 t (st2 t k)
  have J4 : ∀ t, Steps p.tables e below (T2.setTop (mkF m 28 #[.val (.ref a1)] [(.ref a1)])) t → Steps p.tables e below (s₁.setTop (entryFrame m #[(.ref a1)] 1)) t := fun t k => J3 t (by
      show Steps p.tables e below (T2.setTop (mkF m 4 #[.val (.ref a1)] [.null])) _
      refine XS.ifnullYes X2.here hx rfl (pc0 := 4) (pc' := 27) rfl (hb hby d38_4) rfl (by decide) (by decide) ?_
      show Steps p.tables e below (T2.setTop (mkF m 27 #[.val (.ref a1)] [])) _
      refine XS.aloadN X2.here hx rfl (hb hby d38_27) rfl rfl ?_
      exact k)
  obtain ⟨T5, X5, e5, st5⟩ := getF X2 hx hZ hown (host := "") (Or.inl (hw _ (List.mem_of_getElem? (i := 15) rfl))) Via.refl e2 F_cents_a1 (g := (mkF m 28 #[.val (.ref a1)] [(.ref a1)])) rfl rfl (hb hby d38_28)
  have J6 : ∀ t, Steps p.tables e below (T5.setTop (mkF m 31 #[.val (.ref a1)] [(.long v1)])) t → Steps p.tables e below (s₁.setTop (entryFrame m #[(.ref a1)] 1)) t := fun t k => J4 t (st5 t k)
  obtain ⟨fs, hr, hrun, hended, hW, hsame⟩ := X5.leave (v := some (.long v1)) (fun h => by rw [Bd.returns] at h; cases h)
  refine ⟨_, _, J6 _ ?_, hrun, hended, _, _, rfl, ?_, ⟨_, rfl⟩, hW, hsame.mono (by decide) (by decide)⟩
  · show Steps p.tables e below (T5.setTop (mkF m 31 #[.val (.ref a1)] [(.long v1)])) _
    exact retJ X5 hx Bd.returns (hb hby d38_31) hr
  · show Q38 Z a1 v1 h0 n0 _ T5.heap _
    rw [e5]
    exact ⟨rfl, N0, rfl⟩
theorem d39_0 : decode prog_84_method_8_code 0 = .ok (.aload_n 0, 1) := by decide +kernel
theorem d39_1 : decode prog_84_method_8_code 1 = .ok (.getfield 13, 3) := by decide +kernel
theorem d39_4 : decode prog_84_method_8_code 4 = .ok (.ifnonnull 13, 3) := by decide +kernel
theorem d39_7 : decode prog_84_method_8_code 7 = .ok (.aload_n 0, 1) := by decide +kernel
theorem d39_8 : decode prog_84_method_8_code 8 = .ok (.getfield 7, 3) := by decide +kernel
theorem d39_11 : decode prog_84_method_8_code 11 = .ok (.invokestatic 77, 3) := by decide +kernel
theorem d39_14 : decode prog_84_method_8_code 14 = .ok (.goto 10, 3) := by decide +kernel
theorem d39_24 : decode prog_84_method_8_code 24 = .ok (.ireturn, 1) := by decide +kernel
theorem pn_39 : plainName "com/example/tranche/tranche/model/Amount" = true := by first | (simp [plainName, overriddenIn]; done) | decide +kernel
theorem ef_39_x (m : MethodId) (x0 : Addr) : entryFrame m #[(.ref x0)] 1 = mkF m 0 #[.val (.ref x0)] [] := by first | (simp [entryFrame, mkF, argsToLocals, Value.category]; done) | rfl
def Q39 (Z : State) (a1 : Addr) (v1 : Int64) (h0 : Heap) (n0 : Nat) (v : Option Value) (h : Heap) (L : List Loc) : Prop := v = some (.int (own_sg v1)) ∧ Fr n0 L ∧ h = h0
set_option maxRecDepth 65536 in
set_option maxHeartbeats 40000000 in
theorem rm39 (l : Launch) (Z : State) (a0 : Array Value) (hw : ∀ d ∈ tables_1, d.before a0 Z = true) (ws : List Jvm.Cond) (a1 : Addr) (v1 : Int64) (h0 : Heap) (n0 : Nat) (Z0 : n0 ≤ h0.size) (F_cents_a1 : Fld Z h0 a1 "com/example/tranche/tranche/model/Amount" "cents" "J" (.long v1)) (F_wide_a1 : Fld Z h0 a1 "com/example/tranche/tranche/model/Amount" "wide" "Ljava/math/BigDecimal;" .null) :
    MetFree l (⟨"com/example/tranche/tranche/model/Amount", "signum", "()I"⟩ : MethodName) (head1 (Jvm.Cond.code (⟨"com/example/tranche/tranche/model/Amount", "signum", "()I"⟩ : MethodName) prog_84_method_8_code 1 (some .int) :: ws) ({ frames := 1, cells := 0, slots := 0, locals := 13 } : Room)) (fun a U => a = #[(.ref a1)] ∧ Z.Warmed39 U.vm ∧ U.heap = h0) (fun _ _ _ _ _ => True) (fun _ U o U' => ∃ v L, o = .returned v ∧ Q39 Z a1 v1 h0 n0 v U'.heap L ∧ FrameEnd U o U' L ({ frames := 1, cells := 0, slots := 0, locals := 13 } : Room).cells ({ frames := 1, cells := 0, slots := 0, locals := 13 } : Room).slots) := by
  refine MetFree.of_bodySF (plainFor_of_name pn_39) hisR ?_
  intro p e s m args below meth c s₁ Bd hml0 hP hK
  obtain ⟨rfl, hZ, hh⟩ := hP
  have hx := Bd.exec
  have hby := Bd.bytes
  have hml : c.maxLocals = 1 := hml0
  have hown : s.vm.findClass "com/example/tranche/tranche/model/Amount" = some m.cls := findClass_of_methodNamed Bd.named
  have hnm := (name_of_methodNamed Bd.named Bd.method).1
  have X0 : Stand p l e ({ frames := 1, cells := 0, slots := 0, locals := 13 } : Room) s m #[(.ref a1)] below meth c s₁ [] 0 0 := Stand.of_body Bd
  have e0 : s₁.heap = h0 := by rw [← hh, Bd.state]; rfl
  have N0 := Fr.nil n0
  have pre0 : ∀ t, Steps p.tables e below (s₁.setTop (mkF m 0 #[.val (.ref a1)] [])) t → Steps p.tables e below (s₁.setTop (entryFrame m #[(.ref a1)] 1)) t := fun t k => castTop (ef_39_x m a1) k
  have J1 : ∀ t, Steps p.tables e below (s₁.setTop (mkF m 1 #[.val (.ref a1)] [(.ref a1)])) t → Steps p.tables e below (s₁.setTop (entryFrame m #[(.ref a1)] 1)) t := fun t k => pre0 t (by
      show Steps p.tables e below (s₁.setTop (mkF m 0 #[.val (.ref a1)] [])) _
      refine XS.aloadN X0.here hx rfl (hb hby d39_0) rfl rfl ?_
      exact k)
  obtain ⟨T2, X2, e2, st2⟩ := getF X0 hx hZ hown (host := "") (Or.inl (hw _ (List.mem_of_getElem? (i := 17) rfl))) Via.refl e0 F_wide_a1 (g := (mkF m 1 #[.val (.ref a1)] [(.ref a1)])) rfl rfl (hb hby d39_1)
  have J3 : ∀ t, Steps p.tables e below (T2.setTop (mkF m 4 #[.val (.ref a1)] [.null])) t → Steps p.tables e below (s₁.setTop (entryFrame m #[(.ref a1)] 1)) t := fun t k => J1 t (st2 t k)
  have J4 : ∀ t, Steps p.tables e below (T2.setTop (mkF m 8 #[.val (.ref a1)] [(.ref a1)])) t → Steps p.tables e below (s₁.setTop (entryFrame m #[(.ref a1)] 1)) t := fun t k => J3 t (by
      show Steps p.tables e below (T2.setTop (mkF m 4 #[.val (.ref a1)] [.null])) _
      refine XS.ifnonnullNo X2.here hx rfl (hb hby d39_4) rfl ?_
      show Steps p.tables e below (T2.setTop (mkF m 7 #[.val (.ref a1)] [])) _
      refine XS.aloadN X2.here hx rfl (hb hby d39_7) rfl rfl ?_
      exact k)
  obtain ⟨T5, X5, e5, st5⟩ := getF X2 hx hZ hown (host := "") (Or.inl (hw _ (List.mem_of_getElem? (i := 15) rfl))) Via.refl e2 F_cents_a1 (g := (mkF m 8 #[.val (.ref a1)] [(.ref a1)])) rfl rfl (hb hby d39_8)
  have J6 : ∀ t, Steps p.tables e below (T5.setTop (mkF m 11 #[.val (.ref a1)] [(.long v1)])) t → Steps p.tables e below (s₁.setTop (entryFrame m #[(.ref a1)] 1)) t := fun t k => J4 t (st5 t k)
  obtain ⟨_, _, ⟨T7, L7, k7, n7⟩, -, X7, ⟨Lc7, hQ7, l7, y7, z7⟩, st7⟩ := Jvm.LawKit.callS X5 hx (y := (⟨"java/lang/Long", "signum", "(J)I"⟩ : MethodName)) hown (mvT hZ (hw _ (List.mem_of_getElem? (i := 246) rfl))) (mvT hZ (hw _ (List.mem_of_getElem? (i := 167) rfl))) (mvT hZ (hw _ (List.mem_of_getElem? (i := 168) rfl))) (mvT hZ (hw _ (List.mem_of_getElem? (i := 169) rfl))) (by decide) (backOf (W := 0) (rm23 l Z a0 hw [] v1 h0 n0 Z0 ) hZ (hw _ (List.mem_of_getElem? (i := 169) rfl)) (hw _ (List.mem_of_getElem? (i := 168) rfl)) (by decide) (by decide)) (g := (mkF m 11 #[.val (.ref a1)] [(.long v1)])) rfl (by rw [hml]; rfl) (argsL := [(.long v1)]) (rest := []) (lenOf pd_5 rfl) rfl (by show 2 * 0 + _ ≤ _; exact Nat.le_of_eq rfl) (hb hby d39_11) (fun _ _ => ⟨rfl, e5, (by decide : 0 + 0 ≤ _), (by decide : 0 + 0 ≤ _)⟩)
  dsimp only [Pt.U, Pt.locs, Pt.cells, Pt.slots] at X7 l7 y7 z7 st7 hQ7
  subst y7 z7
  obtain ⟨rfl, Nq7, e7⟩ := hQ7
  have N8 : Fr n0 L7 := by rw [l7]; exact Fr.app N0 Nq7
  have J9 : ∀ t, Steps p.tables e below (T7.setTop (mkF m 14 #[.val (.ref a1)] [(.int (own_sg v1))])) t → Steps p.tables e below (s₁.setTop (entryFrame m #[(.ref a1)] 1)) t := fun t k => J6 t (st7 t k)
  have J10 : ∀ t, Steps p.tables e below (T7.setTop (mkF m 24 #[.val (.ref a1)] [(.int (own_sg v1))])) t → Steps p.tables e below (s₁.setTop (entryFrame m #[(.ref a1)] 1)) t := fun t k => J9 t (by
      show Steps p.tables e below (T7.setTop (mkF m 14 #[.val (.ref a1)] [(.int (own_sg v1))])) _
      refine XS.goto X7.here hx rfl (pc0 := 14) (pc' := 24) rfl (hb hby d39_14) (by decide) (by decide) ?_
      exact k)
  obtain ⟨fs, hr, hrun, hended, hW, hsame⟩ := X7.leave (v := some (.int (own_sg v1))) (fun h => by rw [Bd.returns] at h; cases h)
  refine ⟨_, _, J10 _ ?_, hrun, hended, _, _, rfl, ?_, ⟨_, rfl⟩, hW, hsame.mono (by decide) (by decide)⟩
  · show Steps p.tables e below (T7.setTop (mkF m 24 #[.val (.ref a1)] [(.int (own_sg v1))])) _
    exact retI X7 hx Bd.returns (hb hby d39_24) hr
  · show Q39 Z a1 v1 h0 n0 _ T7.heap _
    rw [e7]
    exact ⟨rfl, N8, rfl⟩
theorem d41_0 : decode jdk_35_method_42_code 0 = .ok (.lload_n 0, 1) := by decide +kernel
theorem d41_1 : decode jdk_35_method_42_code 1 = .ok (.lload_n 2, 1) := by decide +kernel
theorem d41_2 : decode jdk_35_method_42_code 2 = .ok (.lcmp, 1) := by decide +kernel
theorem d41_3 : decode jdk_35_method_42_code 3 = .ok (.ifCond .ge 7, 3) := by decide +kernel
theorem d41_6 : decode jdk_35_method_42_code 6 = .ok (.iconst (-1), 1) := by decide +kernel
theorem d41_7 : decode jdk_35_method_42_code 7 = .ok (.goto 14, 3) := by decide +kernel
theorem d41_10 : decode jdk_35_method_42_code 10 = .ok (.lload_n 0, 1) := by decide +kernel
theorem d41_11 : decode jdk_35_method_42_code 11 = .ok (.lload_n 2, 1) := by decide +kernel
theorem d41_12 : decode jdk_35_method_42_code 12 = .ok (.lcmp, 1) := by decide +kernel
theorem d41_13 : decode jdk_35_method_42_code 13 = .ok (.ifCond .ne 7, 3) := by decide +kernel
theorem d41_16 : decode jdk_35_method_42_code 16 = .ok (.iconst 0, 1) := by decide +kernel
theorem d41_17 : decode jdk_35_method_42_code 17 = .ok (.goto 4, 3) := by decide +kernel
theorem d41_20 : decode jdk_35_method_42_code 20 = .ok (.iconst 1, 1) := by decide +kernel
theorem d41_21 : decode jdk_35_method_42_code 21 = .ok (.ireturn, 1) := by decide +kernel
theorem pn_41 : plainName "java/lang/Long" = true := by first | (simp [plainName, overriddenIn]; done) | decide +kernel
theorem ef_41_xx (m : MethodId) (x0 : Int64) (x1 : Int64) : entryFrame m #[(.long x0), (.long x1)] 4 = mkF m 0 #[.val (.long x0), .second, .val (.long x1), .second] [] := by first | (simp [entryFrame, mkF, argsToLocals, Value.category]; done) | rfl
def Q41 (Z : State) (v1 : Int64) (v2 : Int64) (h0 : Heap) (n0 : Nat) (v : Option Value) (h : Heap) (L : List Loc) : Prop := v = some (.int (own_cmp v1 v2)) ∧ Fr n0 L ∧ h = h0
set_option maxRecDepth 65536 in
set_option maxHeartbeats 40000000 in
theorem rm41 (l : Launch) (Z : State) (a0 : Array Value) (hw : ∀ d ∈ tables_1, d.before a0 Z = true) (ws : List Jvm.Cond) (v1 : Int64) (v2 : Int64) (h0 : Heap) (n0 : Nat) (Z0 : n0 ≤ h0.size) :
    MetFree l (⟨"java/lang/Long", "compare", "(JJ)I"⟩ : MethodName) (head1 (Jvm.Cond.code (⟨"java/lang/Long", "compare", "(JJ)I"⟩ : MethodName) jdk_35_method_42_code 4 (some .int) :: ws) ({ frames := 0, cells := 0, slots := 0, locals := 0 } : Room)) (fun a U => a = #[(.long v1), (.long v2)] ∧ Z.Warmed39 U.vm ∧ U.heap = h0) (fun _ _ _ _ _ => True) (fun _ U o U' => ∃ v L, o = .returned v ∧ Q41 Z v1 v2 h0 n0 v U'.heap L ∧ FrameEnd U o U' L ({ frames := 0, cells := 0, slots := 0, locals := 0 } : Room).cells ({ frames := 0, cells := 0, slots := 0, locals := 0 } : Room).slots) := by
  refine MetFree.of_bodySF (plainFor_of_name pn_41) hisR ?_
  intro p e s m args below meth c s₁ Bd hml0 hP hK
  obtain ⟨rfl, hZ, hh⟩ := hP
  have hx := Bd.exec
  have hby := Bd.bytes
  have hml : c.maxLocals = 4 := hml0
  have hown : s.vm.findClass "java/lang/Long" = some m.cls := findClass_of_methodNamed Bd.named
  have hnm := (name_of_methodNamed Bd.named Bd.method).1
  have X0 : Stand p l e ({ frames := 0, cells := 0, slots := 0, locals := 0 } : Room) s m #[(.long v1), (.long v2)] below meth c s₁ [] 0 0 := Stand.of_body Bd
  have e0 : s₁.heap = h0 := by rw [← hh, Bd.state]; rfl
  have N0 := Fr.nil n0
  have pre0 : ∀ t, Steps p.tables e below (s₁.setTop (mkF m 0 #[.val (.long v1), .second, .val (.long v2), .second] [])) t → Steps p.tables e below (s₁.setTop (entryFrame m #[(.long v1), (.long v2)] 4)) t := fun t k => castTop (ef_41_xx m v1 v2) k
  obtain ⟨cv, hcv⟩ : ∃ z : Int32, z = (if (lcmpW v1 v2) < (0 : Int32) then (-1 : Int32) else (if (lcmpW v1 v2) = (0 : Int32) then (0 : Int32) else (1 : Int32))) := ⟨_, rfl⟩
  have ps1 : ∀ t, Steps p.tables e below (s₁.setTop (mkF m 21 #[.val (.long v1), .second, .val (.long v2), .second] [(.int cv)])) t → Steps p.tables e below (s₁.setTop (mkF m 0 #[.val (.long v1), .second, .val (.long v2), .second] [])) t := by
    intro t k
    show Steps p.tables e below (s₁.setTop (mkF m 0 #[.val (.long v1), .second, .val (.long v2), .second] [])) _
    refine XS.lloadN X0.here hx rfl (hb hby d41_0) rfl ?_
    show Steps p.tables e below (s₁.setTop (mkF m 1 #[.val (.long v1), .second, .val (.long v2), .second] [(.long v1)])) _
    refine XS.lloadN X0.here hx rfl (hb hby d41_1) rfl ?_
    show Steps p.tables e below (s₁.setTop (mkF m 2 #[.val (.long v1), .second, .val (.long v2), .second] [(.long v2), (.long v1)])) _
    refine XS.lcmp X0.here hx rfl (hb hby d41_2) rfl ?_
    by_cases hm3_0 : (lcmpW v1 v2) < (0 : Int32)
    ·
      show Steps p.tables e below (s₁.setTop (mkF m 3 #[.val (.long v1), .second, .val (.long v2), .second] [(.int (lcmpW v1 v2))])) _
      refine XS.ifNo X0.here hx rfl (hb hby d41_3) rfl ((if0 _ _).trans (tlt hm3_0).2.1) ?_
      show Steps p.tables e below (s₁.setTop (mkF m 6 #[.val (.long v1), .second, .val (.long v2), .second] [])) _
      refine XS.iconst X0.here hx rfl (hb hby d41_6) ?_
      show Steps p.tables e below (s₁.setTop (mkF m 7 #[.val (.long v1), .second, .val (.long v2), .second] [(.int (-1 : Int32))])) _
      refine XS.goto X0.here hx rfl (pc0 := 7) (pc' := 21) rfl (hb hby d41_7) (by decide) (by decide) ?_
      have qcv : cv = (-1 : Int32) := by rw [hcv]; first | (simp only [hm3_0, if_true, if_false, reduceIte]; done) | simp [hm3_0]
      rw [qcv] at k
      exact k
    ·
      show Steps p.tables e below (s₁.setTop (mkF m 3 #[.val (.long v1), .second, .val (.long v2), .second] [(.int (lcmpW v1 v2))])) _
      refine XS.ifYes X0.here hx rfl (pc0 := 3) (pc' := 10) rfl (hb hby d41_3) rfl ((if0 _ _).trans (flt hm3_0).2.1) (by decide) (by decide) ?_
      show Steps p.tables e below (s₁.setTop (mkF m 10 #[.val (.long v1), .second, .val (.long v2), .second] [])) _
      refine XS.lloadN X0.here hx rfl (hb hby d41_10) rfl ?_
      show Steps p.tables e below (s₁.setTop (mkF m 11 #[.val (.long v1), .second, .val (.long v2), .second] [(.long v1)])) _
      refine XS.lloadN X0.here hx rfl (hb hby d41_11) rfl ?_
      show Steps p.tables e below (s₁.setTop (mkF m 12 #[.val (.long v1), .second, .val (.long v2), .second] [(.long v2), (.long v1)])) _
      refine XS.lcmp X0.here hx rfl (hb hby d41_12) rfl ?_
      by_cases hm13_1 : (lcmpW v1 v2) = (0 : Int32)
      ·
        show Steps p.tables e below (s₁.setTop (mkF m 13 #[.val (.long v1), .second, .val (.long v2), .second] [(.int (lcmpW v1 v2))])) _
        refine XS.ifNo X0.here hx rfl (hb hby d41_13) rfl ((if0 _ _).trans (teq hm13_1).2) ?_
        show Steps p.tables e below (s₁.setTop (mkF m 16 #[.val (.long v1), .second, .val (.long v2), .second] [])) _
        refine XS.iconst X0.here hx rfl (hb hby d41_16) ?_
        show Steps p.tables e below (s₁.setTop (mkF m 17 #[.val (.long v1), .second, .val (.long v2), .second] [(.int (0 : Int32))])) _
        refine XS.goto X0.here hx rfl (pc0 := 17) (pc' := 21) rfl (hb hby d41_17) (by decide) (by decide) ?_
        have qcv : cv = (0 : Int32) := by rw [hcv]; first | (simp only [hm3_0, hm13_1, if_true, if_false, reduceIte]; done) | simp [hm3_0, hm13_1]
        rw [qcv] at k
        exact k
      ·
        show Steps p.tables e below (s₁.setTop (mkF m 13 #[.val (.long v1), .second, .val (.long v2), .second] [(.int (lcmpW v1 v2))])) _
        refine XS.ifYes X0.here hx rfl (pc0 := 13) (pc' := 20) rfl (hb hby d41_13) rfl ((if0 _ _).trans (feq hm13_1).2) (by decide) (by decide) ?_
        show Steps p.tables e below (s₁.setTop (mkF m 20 #[.val (.long v1), .second, .val (.long v2), .second] [])) _
        refine XS.iconst X0.here hx rfl (hb hby d41_20) ?_
        have qcv : cv = (1 : Int32) := by rw [hcv]; first | (simp only [hm3_0, hm13_1, if_true, if_false, reduceIte]; done) | simp [hm3_0, hm13_1]
        rw [qcv] at k
        exact k
  have J2 : ∀ t, Steps p.tables e below (s₁.setTop (mkF m 21 #[.val (.long v1), .second, .val (.long v2), .second] [(.int cv)])) t → Steps p.tables e below (s₁.setTop (entryFrame m #[(.long v1), (.long v2)] 4)) t := fun t k => pre0 t (ps1 t k)
  obtain ⟨fs, hr, hrun, hended, hW, hsame⟩ := X0.leave (v := some (.int cv)) (fun h => by rw [Bd.returns] at h; cases h)
  refine ⟨_, _, J2 _ ?_, hrun, hended, _, _, rfl, ?_, ⟨_, rfl⟩, hW, hsame.mono (by decide) (by decide)⟩
  · show Steps p.tables e below (s₁.setTop (mkF m 21 #[.val (.long v1), .second, .val (.long v2), .second] [(.int cv)])) _
    exact retI X0 hx Bd.returns (hb hby d41_21) hr
  · show Q41 Z v1 v2 h0 n0 _ s₁.heap _
    rw [e0]
    exact ⟨(by rw [hcv]), N0, rfl⟩
theorem d40_0 : decode prog_84_method_7_code 0 = .ok (.aload_n 0, 1) := by decide +kernel
theorem d40_1 : decode prog_84_method_7_code 1 = .ok (.getfield 13, 3) := by decide +kernel
theorem d40_4 : decode prog_84_method_7_code 4 = .ok (.ifnonnull 22, 3) := by decide +kernel
theorem d40_7 : decode prog_84_method_7_code 7 = .ok (.aload_n 1, 1) := by decide +kernel
theorem d40_8 : decode prog_84_method_7_code 8 = .ok (.getfield 13, 3) := by decide +kernel
theorem d40_11 : decode prog_84_method_7_code 11 = .ok (.ifnonnull 15, 3) := by decide +kernel
theorem d40_14 : decode prog_84_method_7_code 14 = .ok (.aload_n 0, 1) := by decide +kernel
theorem d40_15 : decode prog_84_method_7_code 15 = .ok (.getfield 7, 3) := by decide +kernel
theorem d40_18 : decode prog_84_method_7_code 18 = .ok (.aload_n 1, 1) := by decide +kernel
theorem d40_19 : decode prog_84_method_7_code 19 = .ok (.getfield 7, 3) := by decide +kernel
theorem d40_22 : decode prog_84_method_7_code 22 = .ok (.invokestatic 69, 3) := by decide +kernel
theorem pd_22 : parseMethodDescriptor "(JJ)I" = some ⟨[.long, .long], some .int⟩ := by decide +kernel
theorem d40_25 : decode prog_84_method_7_code 25 = .ok (.ireturn, 1) := by decide +kernel
theorem pn_40 : plainName "com/example/tranche/tranche/model/Amount" = true := by first | (simp [plainName, overriddenIn]; done) | decide +kernel
theorem ef_40_xx (m : MethodId) (x0 : Addr) (x1 : Addr) : entryFrame m #[(.ref x0), (.ref x1)] 2 = mkF m 0 #[.val (.ref x0), .val (.ref x1)] [] := by first | (simp [entryFrame, mkF, argsToLocals, Value.category]; done) | rfl
def Q40 (Z : State) (a1 : Addr) (a2 : Addr) (v1 : Int64) (v2 : Int64) (h0 : Heap) (n0 : Nat) (v : Option Value) (h : Heap) (L : List Loc) : Prop := v = some (.int (own_cmp v1 v2)) ∧ Fr n0 L ∧ h = h0
set_option maxRecDepth 65536 in
set_option maxHeartbeats 40000000 in
theorem rm40 (l : Launch) (Z : State) (a0 : Array Value) (hw : ∀ d ∈ tables_1, d.before a0 Z = true) (ws : List Jvm.Cond) (a1 : Addr) (a2 : Addr) (v1 : Int64) (v2 : Int64) (h0 : Heap) (n0 : Nat) (Z0 : n0 ≤ h0.size) (F_cents_a1 : Fld Z h0 a1 "com/example/tranche/tranche/model/Amount" "cents" "J" (.long v1)) (F_wide_a1 : Fld Z h0 a1 "com/example/tranche/tranche/model/Amount" "wide" "Ljava/math/BigDecimal;" .null) (F_cents_a2 : Fld Z h0 a2 "com/example/tranche/tranche/model/Amount" "cents" "J" (.long v2)) (F_wide_a2 : Fld Z h0 a2 "com/example/tranche/tranche/model/Amount" "wide" "Ljava/math/BigDecimal;" .null) :
    MetFree l (⟨"com/example/tranche/tranche/model/Amount", "compareTo", "(Lcom/example/tranche/tranche/model/Amount;)I"⟩ : MethodName) (head1 (Jvm.Cond.code (⟨"com/example/tranche/tranche/model/Amount", "compareTo", "(Lcom/example/tranche/tranche/model/Amount;)I"⟩ : MethodName) prog_84_method_7_code 2 (some .int) :: ws) ({ frames := 1, cells := 0, slots := 0, locals := 15 } : Room)) (fun a U => a = #[(.ref a1), (.ref a2)] ∧ Z.Warmed39 U.vm ∧ U.heap = h0) (fun _ _ _ _ _ => True) (fun _ U o U' => ∃ v L, o = .returned v ∧ Q40 Z a1 a2 v1 v2 h0 n0 v U'.heap L ∧ FrameEnd U o U' L ({ frames := 1, cells := 0, slots := 0, locals := 15 } : Room).cells ({ frames := 1, cells := 0, slots := 0, locals := 15 } : Room).slots) := by
  refine MetFree.of_bodySF (plainFor_of_name pn_40) hisR ?_
  intro p e s m args below meth c s₁ Bd hml0 hP hK
  obtain ⟨rfl, hZ, hh⟩ := hP
  have hx := Bd.exec
  have hby := Bd.bytes
  have hml : c.maxLocals = 2 := hml0
  have hown : s.vm.findClass "com/example/tranche/tranche/model/Amount" = some m.cls := findClass_of_methodNamed Bd.named
  have hnm := (name_of_methodNamed Bd.named Bd.method).1
  have X0 : Stand p l e ({ frames := 1, cells := 0, slots := 0, locals := 15 } : Room) s m #[(.ref a1), (.ref a2)] below meth c s₁ [] 0 0 := Stand.of_body Bd
  have e0 : s₁.heap = h0 := by rw [← hh, Bd.state]; rfl
  have N0 := Fr.nil n0
  have pre0 : ∀ t, Steps p.tables e below (s₁.setTop (mkF m 0 #[.val (.ref a1), .val (.ref a2)] [])) t → Steps p.tables e below (s₁.setTop (entryFrame m #[(.ref a1), (.ref a2)] 2)) t := fun t k => castTop (ef_40_xx m a1 a2) k
  have J1 : ∀ t, Steps p.tables e below (s₁.setTop (mkF m 1 #[.val (.ref a1), .val (.ref a2)] [(.ref a1)])) t → Steps p.tables e below (s₁.setTop (entryFrame m #[(.ref a1), (.ref a2)] 2)) t := fun t k => pre0 t (by
      show Steps p.tables e below (s₁.setTop (mkF m 0 #[.val (.ref a1), .val (.ref a2)] [])) _
      refine XS.aloadN X0.here hx rfl (hb hby d40_0) rfl rfl ?_
      exact k)
  obtain ⟨T2, X2, e2, st2⟩ := getF X0 hx hZ hown (host := "") (Or.inl (hw _ (List.mem_of_getElem? (i := 17) rfl))) Via.refl e0 F_wide_a1 (g := (mkF m 1 #[.val (.ref a1), .val (.ref a2)] [(.ref a1)])) rfl rfl (hb hby d40_1)
  have J3 : ∀ t, Steps p.tables e below (T2.setTop (mkF m 4 #[.val (.ref a1), .val (.ref a2)] [.null])) t → Steps p.tables e below (s₁.setTop (entryFrame m #[(.ref a1), (.ref a2)] 2)) t := fun t k => J1 t (st2 t k)
  have J4 : ∀ t, Steps p.tables e below (T2.setTop (mkF m 8 #[.val (.ref a1), .val (.ref a2)] [(.ref a2)])) t → Steps p.tables e below (s₁.setTop (entryFrame m #[(.ref a1), (.ref a2)] 2)) t := fun t k => J3 t (by
      show Steps p.tables e below (T2.setTop (mkF m 4 #[.val (.ref a1), .val (.ref a2)] [.null])) _
      refine XS.ifnonnullNo X2.here hx rfl (hb hby d40_4) rfl ?_
      show Steps p.tables e below (T2.setTop (mkF m 7 #[.val (.ref a1), .val (.ref a2)] [])) _
      refine XS.aloadN X2.here hx rfl (hb hby d40_7) rfl rfl ?_
      exact k)
  obtain ⟨T5, X5, e5, st5⟩ := getF X2 hx hZ hown (host := "") (Or.inl (hw _ (List.mem_of_getElem? (i := 17) rfl))) Via.refl e2 F_wide_a2 (g := (mkF m 8 #[.val (.ref a1), .val (.ref a2)] [(.ref a2)])) rfl rfl (hb hby d40_8)
  have J6 : ∀ t, Steps p.tables e below (T5.setTop (mkF m 11 #[.val (.ref a1), .val (.ref a2)] [.null])) t → Steps p.tables e below (s₁.setTop (entryFrame m #[(.ref a1), (.ref a2)] 2)) t := fun t k => J4 t (st5 t k)
  have J7 : ∀ t, Steps p.tables e below (T5.setTop (mkF m 15 #[.val (.ref a1), .val (.ref a2)] [(.ref a1)])) t → Steps p.tables e below (s₁.setTop (entryFrame m #[(.ref a1), (.ref a2)] 2)) t := fun t k => J6 t (by
      show Steps p.tables e below (T5.setTop (mkF m 11 #[.val (.ref a1), .val (.ref a2)] [.null])) _
      refine XS.ifnonnullNo X5.here hx rfl (hb hby d40_11) rfl ?_
      show Steps p.tables e below (T5.setTop (mkF m 14 #[.val (.ref a1), .val (.ref a2)] [])) _
      refine XS.aloadN X5.here hx rfl (hb hby d40_14) rfl rfl ?_
      exact k)
  obtain ⟨T8, X8, e8, st8⟩ := getF X5 hx hZ hown (host := "") (Or.inl (hw _ (List.mem_of_getElem? (i := 15) rfl))) Via.refl e5 F_cents_a1 (g := (mkF m 15 #[.val (.ref a1), .val (.ref a2)] [(.ref a1)])) rfl rfl (hb hby d40_15)
  have J9 : ∀ t, Steps p.tables e below (T8.setTop (mkF m 18 #[.val (.ref a1), .val (.ref a2)] [(.long v1)])) t → Steps p.tables e below (s₁.setTop (entryFrame m #[(.ref a1), (.ref a2)] 2)) t := fun t k => J7 t (st8 t k)
  have J10 : ∀ t, Steps p.tables e below (T8.setTop (mkF m 19 #[.val (.ref a1), .val (.ref a2)] [(.ref a2), (.long v1)])) t → Steps p.tables e below (s₁.setTop (entryFrame m #[(.ref a1), (.ref a2)] 2)) t := fun t k => J9 t (by
      show Steps p.tables e below (T8.setTop (mkF m 18 #[.val (.ref a1), .val (.ref a2)] [(.long v1)])) _
      refine XS.aloadN X8.here hx rfl (hb hby d40_18) rfl rfl ?_
      exact k)
  obtain ⟨T11, X11, e11, st11⟩ := getF X8 hx hZ hown (host := "") (Or.inl (hw _ (List.mem_of_getElem? (i := 15) rfl))) Via.refl e8 F_cents_a2 (g := (mkF m 19 #[.val (.ref a1), .val (.ref a2)] [(.ref a2), (.long v1)])) rfl rfl (hb hby d40_19)
  have J12 : ∀ t, Steps p.tables e below (T11.setTop (mkF m 22 #[.val (.ref a1), .val (.ref a2)] [(.long v2), (.long v1)])) t → Steps p.tables e below (s₁.setTop (entryFrame m #[(.ref a1), (.ref a2)] 2)) t := fun t k => J10 t (st11 t k)
  obtain ⟨_, _, ⟨T13, L13, k13, n13⟩, -, X13, ⟨Lc13, hQ13, l13, y13, z13⟩, st13⟩ := Jvm.LawKit.callS X11 hx (y := (⟨"java/lang/Long", "compare", "(JJ)I"⟩ : MethodName)) hown (mvT hZ (hw _ (List.mem_of_getElem? (i := 252) rfl))) (mvT hZ (hw _ (List.mem_of_getElem? (i := 253) rfl))) (mvT hZ (hw _ (List.mem_of_getElem? (i := 168) rfl))) (mvT hZ (hw _ (List.mem_of_getElem? (i := 254) rfl))) (by decide) (backOf (W := 0) (rm41 l Z a0 hw [] v1 v2 h0 n0 Z0 ) hZ (hw _ (List.mem_of_getElem? (i := 254) rfl)) (hw _ (List.mem_of_getElem? (i := 168) rfl)) (by decide) (by decide)) (g := (mkF m 22 #[.val (.ref a1), .val (.ref a2)] [(.long v2), (.long v1)])) rfl (by rw [hml]; rfl) (argsL := [(.long v1), (.long v2)]) (rest := []) (lenOf pd_22 rfl) rfl (by show 2 * 0 + _ ≤ _; exact Nat.le_of_eq rfl) (hb hby d40_22) (fun _ _ => ⟨rfl, e11, (by decide : 0 + 0 ≤ _), (by decide : 0 + 0 ≤ _)⟩)
  dsimp only [Pt.U, Pt.locs, Pt.cells, Pt.slots] at X13 l13 y13 z13 st13 hQ13
  subst y13 z13
  obtain ⟨rfl, Nq13, e13⟩ := hQ13
  have N14 : Fr n0 L13 := by rw [l13]; exact Fr.app N0 Nq13
  have J15 : ∀ t, Steps p.tables e below (T13.setTop (mkF m 25 #[.val (.ref a1), .val (.ref a2)] [(.int (own_cmp v1 v2))])) t → Steps p.tables e below (s₁.setTop (entryFrame m #[(.ref a1), (.ref a2)] 2)) t := fun t k => J12 t (st13 t k)
  obtain ⟨fs, hr, hrun, hended, hW, hsame⟩ := X13.leave (v := some (.int (own_cmp v1 v2))) (fun h => by rw [Bd.returns] at h; cases h)
  refine ⟨_, _, J15 _ ?_, hrun, hended, _, _, rfl, ?_, ⟨_, rfl⟩, hW, hsame.mono (by decide) (by decide)⟩
  · show Steps p.tables e below (T13.setTop (mkF m 25 #[.val (.ref a1), .val (.ref a2)] [(.int (own_cmp v1 v2))])) _
    exact retI X13 hx Bd.returns (hb hby d40_25) hr
  · show Q40 Z a1 a2 v1 v2 h0 n0 _ T13.heap _
    rw [e13]
    exact ⟨rfl, N14, rfl⟩
theorem pd_23 : parseMethodDescriptor "(J)Lcom/example/tranche/tranche/model/Amount;" = some ⟨[.long], some (.object "com/example/tranche/tranche/model/Amount")⟩ := by decide +kernel
theorem pd_24 : parseMethodDescriptor "()Z" = some ⟨[], some .boolean⟩ := by decide +kernel
theorem pd_25 : parseMethodDescriptor "()J" = some ⟨[], some .long⟩ := by decide +kernel
theorem pd_26 : parseMethodDescriptor "(Lcom/example/tranche/tranche/model/Amount;)I" = some ⟨[(.object "com/example/tranche/tranche/model/Amount")], some .int⟩ := by decide +kernel
theorem pd_27 : parseMethodDescriptor "(Lcom/example/tranche/tranche/model/Amount;)Lcom/example/tranche/tranche/model/Amount;" = some ⟨[(.object "com/example/tranche/tranche/model/Amount")], some (.object "com/example/tranche/tranche/model/Amount")⟩ := by decide +kernel
theorem pn_0 : plainName "com/example/tranche/tranche/model/AmountSetPinLaw" = true := by first | (simp [plainName, overriddenIn]; done) | decide +kernel
theorem ef_0_xxxx (m : MethodId) (x0 : Int64) (x1 : Int64) (x2 : Int64) (x3 : Int32) : entryFrame m #[(.long x0), (.long x1), (.long x2), (.int x3)] maxLocals = mkF m 0 #[.val (.long x0), .second, .val (.long x1), .second, .val (.long x2), .second, .val (.int x3), .unset, .unset, .unset, .unset, .unset, .unset] [] := by first | (simp [entryFrame, mkF, argsToLocals, Value.category, maxLocals]; done) | rfl
def Q0 (Z : State) (p1 : Int64) (p2 : Int64) (p3 : Int64) (p4 : Int32) (h0 : Heap) (n0 : Nat) (v : Option Value) (h : Heap) (L : List Loc) : Prop := v = some (.int (1 : Int32)) ∧ Fr n0 L
set_option maxRecDepth 65536 in
set_option maxHeartbeats 40000000 in
theorem rm0 (l : Launch) (hl : l.stackTraces = true) (Z : State) (a0 : Array Value) (hw : ∀ d ∈ tables_1, d.before a0 Z = true) (ws : List Jvm.Cond) (p1 : Int64) (p2 : Int64) (p3 : Int64) (p4 : Int32) (h0 : Heap) (n0 : Nat) (Z0 : n0 ≤ h0.size) (O : Old Z n0 h0) (B : own_Th Z) (hM : MirrorMade Z "java/math/BigInteger") :
    MetFree l x (head1 (Jvm.Cond.code x code maxLocals ret :: ws) room_1) (fun a U => a = #[(.long p1), (.long p2), (.long p3), (.int p4)] ∧ Z.Warmed39 U.vm ∧ U.heap = h0) (fun _ _ bl s _ => s.vm.MethodsKnown ∧ s.vm.FramesKnown bl) (fun _ U o U' => ∃ v L, o = .returned v ∧ Q0 Z p1 p2 p3 p4 h0 n0 v U'.heap L ∧ ReturnedEndW U o U' L room_1.cells room_1.slots) := by
  refine MetFree.of_bodySF (plainFor_of_name pn_0) hisR ?_
  intro p e s m args below meth c s₁ Bd hml0 hP hK
  obtain ⟨rfl, hZ, hh⟩ := hP
  have hx := Bd.exec
  have hby := Bd.bytes
  have hml : c.maxLocals = 13 := hml0
  have hown : s.vm.findClass "com/example/tranche/tranche/model/AmountSetPinLaw" = some m.cls := findClass_of_methodNamed Bd.named
  have hnm := (name_of_methodNamed Bd.named Bd.method).1
  obtain ⟨hTK, hBelow⟩ := hK
  have hTK0 := hTK
  have hBelow0 := hBelow
  have own_wS : ∀ a ∈ Bundle.stringAtoms, a.before a0 Z = true := own_words hw
  have hSi : s.Since s.vm h0.size := (State.WarmedH.refl s).since _
  have kz : h0.size ≤ h0.size := Nat.le_refl _
  have hZ : Z.Warmed39 (s.setVm s.vm).vm := hZ
  have hown : (s.setVm s.vm).vm.findClass "com/example/tranche/tranche/model/AmountSetPinLaw" = some m.cls := hown
  have hTK : (s.setVm s.vm).vm.MethodsKnown := hTK
  have hBelow : (s.setVm s.vm).vm.FramesKnown below := hBelow
  have X0 : Stand p l e room_1 (s.setVm s.vm) m #[(.long p1), (.long p2), (.long p3), (.int p4)] below meth c s₁ [] 0 0 := Stand.of_body Bd
  have e0 : s₁.heap = h0 := by rw [← hh, Bd.state]; rfl
  have N0 := Fr.nil n0
  have pre0 : ∀ t, Steps p.tables e below (s₁.setTop (mkF m 0 #[.val (.long p1), .second, .val (.long p2), .second, .val (.long p3), .second, .val (.int p4), .unset, .unset, .unset, .unset, .unset, .unset] [])) t → Steps p.tables e below (s₁.setTop (entryFrame m #[(.long p1), (.long p2), (.long p3), (.int p4)] maxLocals)) t := fun t k => castTop (ef_0_xxxx m p1 p2 p3 p4) k
  obtain ⟨us, ss, Zu, Zs⟩ := B
  obtain ⟨T1, h1, X1, e1, E1, A1, D1, U1, st1⟩ := newO X0 hx hZ hown (hw _ (List.mem_of_getElem? (i := 0) rfl)) (hw _ (List.mem_of_getElem? (i := 1) rfl)) (hw _ (List.mem_of_getElem? (i := 2) rfl)) e0 (g := (mkF m 0 #[.val (.long p1), .second, .val (.long p2), .second, .val (.long p3), .second, .val (.int p4), .unset, .unset, .unset, .unset, .unset, .unset] [])) rfl (hb hby at_0) (by decide) (by decide)
  obtain ⟨b1, g1⟩ : ∃ z, z = h0.size := ⟨_, rfl⟩
  rw [← g1] at A1 D1 U1 st1
  have J2 : ∀ t, Steps p.tables e below (T1.setTop (mkF m 3 #[.val (.long p1), .second, .val (.long p2), .second, .val (.long p3), .second, .val (.int p4), .unset, .unset, .unset, .unset, .unset, .unset] [(.ref b1)])) t → Steps p.tables e below (s₁.setTop (entryFrame m #[(.long p1), (.long p2), (.long p3), (.int p4)] maxLocals)) t := fun t k => pre0 t (st1 t k)
  have ge3 : n0 ≤ b1 := Nat.le_trans Z0 (Nat.le_of_eq g1.symm)
  have Z4 : n0 ≤ h1.size := Nat.le_trans Z0 E1.1
  have kz := Nat.le_trans kz E1.1
  have F1_cents : Fld Z h1 b1 "com/example/tranche/tranche/model/Amount" "cents" "J" (.long (0 : Int64)) := D1 (Or.inl (hw _ (List.mem_of_getElem? (i := 16) rfl))) (ty := .long) (by decide)
  have F1_wide : Fld Z h1 b1 "com/example/tranche/tranche/model/Amount" "wide" "Ljava/math/BigDecimal;" .null := D1 (Or.inl (hw _ (List.mem_of_getElem? (i := 18) rfl))) (ty := (.object "java/math/BigDecimal")) (by decide)
  have J5 : ∀ t, Steps p.tables e below (T1.setTop (mkF m 4 #[.val (.long p1), .second, .val (.long p2), .second, .val (.long p3), .second, .val (.int p4), .unset, .unset, .unset, .unset, .unset, .unset] [(.ref b1), (.ref b1)])) t → Steps p.tables e below (s₁.setTop (entryFrame m #[(.long p1), (.long p2), (.long p3), (.int p4)] maxLocals)) t := fun t k => J2 t (by
      show Steps p.tables e below (T1.setTop (mkF m 3 #[.val (.long p1), .second, .val (.long p2), .second, .val (.long p3), .second, .val (.int p4), .unset, .unset, .unset, .unset, .unset, .unset] [(.ref b1)])) _
      refine XS.dup X1.here hx rfl (hb hby at_3) rfl rfl ?_
      exact k)
  obtain ⟨_, _, ⟨T6, L6, k6, n6⟩, -, X6, ⟨Lc6, hQ6, l6, y6, z6⟩, st6⟩ := X1.specialBack hx (y := (⟨"com/example/tranche/tranche/model/Amount", "<init>", "()V"⟩ : MethodName)) rfl hown (mvT hZ (hw _ (List.mem_of_getElem? (i := 3) rfl))) (mvT hZ (hw _ (List.mem_of_getElem? (i := 4) rfl))) (mvT hZ (hw _ (List.mem_of_getElem? (i := 5) rfl))) (by decide) (backOf (W := 1) (rm1 l Z a0 hw [] b1 h1 n0 Z4 ) hZ (hw _ (List.mem_of_getElem? (i := 5) rfl)) (hw _ (List.mem_of_getElem? (i := 2) rfl)) (by decide) (by decide)) (g := (mkF m 4 #[.val (.long p1), .second, .val (.long p2), .second, .val (.long p3), .second, .val (.int p4), .unset, .unset, .unset, .unset, .unset, .unset] [(.ref b1), (.ref b1)])) rfl (by rw [hml]; rfl) (Steps.refl _) (a := b1) (argsL := []) (rest := [(.ref b1)]) (lenOf pd_1 rfl) rfl (by show 2 * 0 + _ ≤ _; exact Nat.le_of_eq rfl) (hb hby at_4) (fun _ _ => ⟨rfl, e1, (by decide : 1 + 0 ≤ _), (by decide : 2 + 0 ≤ _)⟩)
  dsimp only [Pt.U, Pt.locs, Pt.cells, Pt.slots] at X6 l6 y6 z6 st6 hQ6
  subst y6 z6
  obtain ⟨rfl, Nq6, e6⟩ := hQ6
  have N7 : Fr n0 L6 := by rw [l6]; exact Fr.app N0 Nq6
  have J8 : ∀ t, Steps p.tables e below (T6.setTop (mkF m 7 #[.val (.long p1), .second, .val (.long p2), .second, .val (.long p3), .second, .val (.int p4), .unset, .unset, .unset, .unset, .unset, .unset] [(.ref b1)])) t → Steps p.tables e below (s₁.setTop (entryFrame m #[(.long p1), (.long p2), (.long p3), (.int p4)] maxLocals)) t := fun t k => J5 t (st6.trans k)
  have J9 : ∀ t, Steps p.tables e below (T6.setTop (mkF m 9 #[.val (.long p1), .second, .val (.long p2), .second, .val (.long p3), .second, .val (.int p4), .val (.ref b1), .unset, .unset, .unset, .unset, .unset] [])) t → Steps p.tables e below (s₁.setTop (entryFrame m #[(.long p1), (.long p2), (.long p3), (.int p4)] maxLocals)) t := fun t k => J8 t (by
      show Steps p.tables e below (T6.setTop (mkF m 7 #[.val (.long p1), .second, .val (.long p2), .second, .val (.long p3), .second, .val (.int p4), .unset, .unset, .unset, .unset, .unset, .unset] [(.ref b1)])) _
      refine XS.astore X6.here hx rfl (hb hby at_7) rfl rfl (l' := #[.val (.long p1), .second, .val (.long p2), .second, .val (.long p3), .second, .val (.int p4), .val (.ref b1), .unset, .unset, .unset, .unset, .unset]) rfl ?_
      exact k)
  obtain ⟨T10, h10, X10, e10, E10, A10, D10, U10, st10⟩ := newO X6 hx hZ hown (hw _ (List.mem_of_getElem? (i := 0) rfl)) (hw _ (List.mem_of_getElem? (i := 1) rfl)) (hw _ (List.mem_of_getElem? (i := 2) rfl)) e6 (g := (mkF m 9 #[.val (.long p1), .second, .val (.long p2), .second, .val (.long p3), .second, .val (.int p4), .val (.ref b1), .unset, .unset, .unset, .unset, .unset] [])) rfl (hb hby at_9) (by decide) (by decide)
  obtain ⟨b10, g10⟩ : ∃ z, z = h1.size := ⟨_, rfl⟩
  rw [← g10] at A10 D10 U10 st10
  have J11 : ∀ t, Steps p.tables e below (T10.setTop (mkF m 12 #[.val (.long p1), .second, .val (.long p2), .second, .val (.long p3), .second, .val (.int p4), .val (.ref b1), .unset, .unset, .unset, .unset, .unset] [(.ref b10)])) t → Steps p.tables e below (s₁.setTop (entryFrame m #[(.long p1), (.long p2), (.long p3), (.int p4)] maxLocals)) t := fun t k => J9 t (st10 t k)
  have ne12 : b1 ≠ b10 := Nat.ne_of_lt (Nat.lt_of_lt_of_le A1.lt (Nat.le_of_eq g10.symm))
  have ge13 : n0 ≤ b10 := Nat.le_trans Z4 (Nat.le_of_eq g10.symm)
  have Z14 : n0 ≤ h10.size := Nat.le_trans Z4 E10.1
  have kz := Nat.le_trans kz E10.1
  have F10_cents : Fld Z h10 b10 "com/example/tranche/tranche/model/Amount" "cents" "J" (.long (0 : Int64)) := D10 (Or.inl (hw _ (List.mem_of_getElem? (i := 16) rfl))) (ty := .long) (by decide)
  have F10_wide : Fld Z h10 b10 "com/example/tranche/tranche/model/Amount" "wide" "Ljava/math/BigDecimal;" .null := D10 (Or.inl (hw _ (List.mem_of_getElem? (i := 18) rfl))) (ty := (.object "java/math/BigDecimal")) (by decide)
  have J15 : ∀ t, Steps p.tables e below (T10.setTop (mkF m 13 #[.val (.long p1), .second, .val (.long p2), .second, .val (.long p3), .second, .val (.int p4), .val (.ref b1), .unset, .unset, .unset, .unset, .unset] [(.ref b10), (.ref b10)])) t → Steps p.tables e below (s₁.setTop (entryFrame m #[(.long p1), (.long p2), (.long p3), (.int p4)] maxLocals)) t := fun t k => J11 t (by
      show Steps p.tables e below (T10.setTop (mkF m 12 #[.val (.long p1), .second, .val (.long p2), .second, .val (.long p3), .second, .val (.int p4), .val (.ref b1), .unset, .unset, .unset, .unset, .unset] [(.ref b10)])) _
      refine XS.dup X10.here hx rfl (hb hby at_12) rfl rfl ?_
      exact k)
  obtain ⟨_, _, ⟨T16, L16, k16, n16⟩, -, X16, ⟨Lc16, hQ16, l16, y16, z16⟩, st16⟩ := X10.specialBack hx (y := (⟨"com/example/tranche/tranche/model/Amount", "<init>", "()V"⟩ : MethodName)) rfl hown (mvT hZ (hw _ (List.mem_of_getElem? (i := 3) rfl))) (mvT hZ (hw _ (List.mem_of_getElem? (i := 4) rfl))) (mvT hZ (hw _ (List.mem_of_getElem? (i := 5) rfl))) (by decide) (backOf (W := 1) (rm1 l Z a0 hw [] b10 h10 n0 Z14 ) hZ (hw _ (List.mem_of_getElem? (i := 5) rfl)) (hw _ (List.mem_of_getElem? (i := 2) rfl)) (by decide) (by decide)) (g := (mkF m 13 #[.val (.long p1), .second, .val (.long p2), .second, .val (.long p3), .second, .val (.int p4), .val (.ref b1), .unset, .unset, .unset, .unset, .unset] [(.ref b10), (.ref b10)])) rfl (by rw [hml]; rfl) (Steps.refl _) (a := b10) (argsL := []) (rest := [(.ref b10)]) (lenOf pd_1 rfl) rfl (by show 2 * 0 + _ ≤ _; exact Nat.le_of_eq rfl) (hb hby at_13) (fun _ _ => ⟨rfl, e10, (by decide : 2 + 0 ≤ _), (by decide : 4 + 0 ≤ _)⟩)
  dsimp only [Pt.U, Pt.locs, Pt.cells, Pt.slots] at X16 l16 y16 z16 st16 hQ16
  subst y16 z16
  obtain ⟨rfl, Nq16, e16⟩ := hQ16
  have N17 : Fr n0 L16 := by rw [l16]; exact Fr.app N7 Nq16
  have J18 : ∀ t, Steps p.tables e below (T16.setTop (mkF m 16 #[.val (.long p1), .second, .val (.long p2), .second, .val (.long p3), .second, .val (.int p4), .val (.ref b1), .unset, .unset, .unset, .unset, .unset] [(.ref b10)])) t → Steps p.tables e below (s₁.setTop (entryFrame m #[(.long p1), (.long p2), (.long p3), (.int p4)] maxLocals)) t := fun t k => J15 t (st16.trans k)
  have J19 : ∀ t, Steps p.tables e below (T16.setTop (mkF m 24 #[.val (.long p1), .second, .val (.long p2), .second, .val (.long p3), .second, .val (.int p4), .val (.ref b1), .val (.ref b10), .val (.int (p4 &&& (3 : Int32))), .unset, .unset, .unset] [])) t → Steps p.tables e below (s₁.setTop (entryFrame m #[(.long p1), (.long p2), (.long p3), (.int p4)] maxLocals)) t := fun t k => J18 t (by
      show Steps p.tables e below (T16.setTop (mkF m 16 #[.val (.long p1), .second, .val (.long p2), .second, .val (.long p3), .second, .val (.int p4), .val (.ref b1), .unset, .unset, .unset, .unset, .unset] [(.ref b10)])) _
      refine XS.astore X16.here hx rfl (hb hby at_16) rfl rfl (l' := #[.val (.long p1), .second, .val (.long p2), .second, .val (.long p3), .second, .val (.int p4), .val (.ref b1), .val (.ref b10), .unset, .unset, .unset, .unset]) rfl ?_
      show Steps p.tables e below (T16.setTop (mkF m 18 #[.val (.long p1), .second, .val (.long p2), .second, .val (.long p3), .second, .val (.int p4), .val (.ref b1), .val (.ref b10), .unset, .unset, .unset, .unset] [])) _
      refine XS.iload X16.here hx rfl (hb hby at_18) rfl ?_
      show Steps p.tables e below (T16.setTop (mkF m 20 #[.val (.long p1), .second, .val (.long p2), .second, .val (.long p3), .second, .val (.int p4), .val (.ref b1), .val (.ref b10), .unset, .unset, .unset, .unset] [(.int p4)])) _
      refine XS.iconst X16.here hx rfl (hb hby at_20) ?_
      show Steps p.tables e below (T16.setTop (mkF m 21 #[.val (.long p1), .second, .val (.long p2), .second, .val (.long p3), .second, .val (.int p4), .val (.ref b1), .val (.ref b10), .unset, .unset, .unset, .unset] [(.int (3 : Int32)), (.int p4)])) _
      refine XS.iand X16.here hx rfl (hb hby at_21) rfl ?_
      show Steps p.tables e below (T16.setTop (mkF m 22 #[.val (.long p1), .second, .val (.long p2), .second, .val (.long p3), .second, .val (.int p4), .val (.ref b1), .val (.ref b10), .unset, .unset, .unset, .unset] [(.int (p4 &&& (3 : Int32)))])) _
      refine XS.istore X16.here hx rfl (hb hby at_22) rfl (l' := #[.val (.long p1), .second, .val (.long p2), .second, .val (.long p3), .second, .val (.int p4), .val (.ref b1), .val (.ref b10), .val (.int (p4 &&& (3 : Int32))), .unset, .unset, .unset]) rfl ?_
      exact k)
  obtain ⟨md, hmd⟩ : ∃ z : Int32, z = (p4 &&& (3 : Int32)) := ⟨_, rfl⟩
  have J20 : ∀ t, Steps p.tables e below (T16.setTop (mkF m 24 #[.val (.long p1), .second, .val (.long p2), .second, .val (.long p3), .second, .val (.int p4), .val (.ref b1), .val (.ref b10), .val (.int md), .unset, .unset, .unset] [])) t → Steps p.tables e below (s₁.setTop (entryFrame m #[(.long p1), (.long p2), (.long p3), (.int p4)] maxLocals)) t := fun t k => J19 t (by subst hmd; exact k)
  have J21 : ∀ t, Steps p.tables e below (T16.setTop (mkF m 27 #[.val (.long p1), .second, .val (.long p2), .second, .val (.long p3), .second, .val (.int p4), .val (.ref b1), .val (.ref b10), .val (.int md), .unset, .unset, .unset] [(.int (1 : Int32)), (.int md)])) t → Steps p.tables e below (s₁.setTop (entryFrame m #[(.long p1), (.long p2), (.long p3), (.int p4)] maxLocals)) t := fun t k => J20 t (by
      show Steps p.tables e below (T16.setTop (mkF m 24 #[.val (.long p1), .second, .val (.long p2), .second, .val (.long p3), .second, .val (.int p4), .val (.ref b1), .val (.ref b10), .val (.int md), .unset, .unset, .unset] [])) _
      refine XS.iload X16.here hx rfl (hb hby at_24) rfl ?_
      show Steps p.tables e below (T16.setTop (mkF m 26 #[.val (.long p1), .second, .val (.long p2), .second, .val (.long p3), .second, .val (.int p4), .val (.ref b1), .val (.ref b10), .val (.int md), .unset, .unset, .unset] [(.int md)])) _
      refine XS.iconst X16.here hx rfl (hb hby at_26) ?_
      exact k)
  by_cases h1 : md = (1 : Int32)
  ·
    have J22 : ∀ t, Steps p.tables e below (T16.setTop (mkF m 39 #[.val (.long p1), .second, .val (.long p2), .second, .val (.long p3), .second, .val (.int p4), .val (.ref b1), .val (.ref b10), .val (.int md), .unset, .unset, .unset] [(.long p2), (.ref b1)])) t → Steps p.tables e below (s₁.setTop (entryFrame m #[(.long p1), (.long p2), (.long p3), (.int p4)] maxLocals)) t := fun t k => J21 t (by
        show Steps p.tables e below (T16.setTop (mkF m 27 #[.val (.long p1), .second, .val (.long p2), .second, .val (.long p3), .second, .val (.int p4), .val (.ref b1), .val (.ref b10), .val (.int md), .unset, .unset, .unset] [(.int (1 : Int32)), (.int md)])) _
        refine XS.icmpYes X16.here hx rfl (pc0 := 27) (pc' := 36) rfl (hb hby at_27) rfl (teq h1).1 (by decide) (by decide) ?_
        show Steps p.tables e below (T16.setTop (mkF m 36 #[.val (.long p1), .second, .val (.long p2), .second, .val (.long p3), .second, .val (.int p4), .val (.ref b1), .val (.ref b10), .val (.int md), .unset, .unset, .unset] [])) _
        refine XS.aload X16.here hx rfl (hb hby at_36) rfl rfl ?_
        show Steps p.tables e below (T16.setTop (mkF m 38 #[.val (.long p1), .second, .val (.long p2), .second, .val (.long p3), .second, .val (.int p4), .val (.ref b1), .val (.ref b10), .val (.int md), .unset, .unset, .unset] [(.ref b1)])) _
        refine XS.lloadN X16.here hx rfl (hb hby at_38) rfl ?_
        exact k)
    have f23 := A1.ext E10
    have f24 := F1_cents.ext E10
    have f25 := F1_wide.ext E10
    obtain ⟨cq26, kq26, q26a, q26b, q26c⟩ := isOf hZ e16 f23
    obtain ⟨_, _, ⟨T26, L26, k26, n26⟩, -, X26, ⟨Lc26, hQ26, l26, y26, z26⟩, st26⟩ := X16.virtualBack hx (y := (⟨"com/example/tranche/tranche/model/Amount", "set", "(J)Lcom/example/tranche/tranche/model/Amount;"⟩ : MethodName)) (z := (⟨"com/example/tranche/tranche/model/Amount", "set", "(J)Lcom/example/tranche/tranche/model/Amount;"⟩ : MethodName)) hown (mvT hZ (hw _ (List.mem_of_getElem? (i := 10) rfl))) (mvT hZ (hw _ (List.mem_of_getElem? (i := 11) rfl))) (notFace_of_selects (args := #[]) (mvT hZ (hw _ (List.mem_of_getElem? (i := 13) rfl)))) (mvT hZ (hw _ (List.mem_of_getElem? (i := 13) rfl))) (mvT hZ (hw _ (List.mem_of_getElem? (i := 12) rfl))) (by decide) (backOf (W := 0) (rm3 l Z a0 hw [] b1 p2 (.long (0 : Int64)) .null h10 n0 Z14 f23 ge3 f24 f25) hZ (hw _ (List.mem_of_getElem? (i := 14) rfl)) (hw _ (List.mem_of_getElem? (i := 2) rfl)) (by decide) (by decide)) q26a q26c (g := (mkF m 39 #[.val (.long p1), .second, .val (.long p2), .second, .val (.long p3), .second, .val (.int p4), .val (.ref b1), .val (.ref b10), .val (.int md), .unset, .unset, .unset] [(.long p2), (.ref b1)])) rfl (by rw [hml]; rfl) (Steps.refl _) (argsL := [(.long p2)]) (rest := []) (lenOf pd_23 rfl) rfl (by show 2 * 0 + _ ≤ _; exact Nat.le_of_eq rfl) (hb hby at_39) (fun _ _ => ⟨rfl, e16, (by decide : 2 + 0 ≤ _), (by decide : 4 + 0 ≤ _)⟩)
    dsimp only [Pt.U, Pt.locs, Pt.cells, Pt.slots] at X26 l26 y26 z26 st26 hQ26
    subst y26 z26
    obtain ⟨rfl, Nq26, K26, p26_1, p26_2, p26_3⟩ := hQ26
    have N27 : Fr n0 L26 := by rw [l26]; exact Fr.app N17 Nq26
    have J28 : ∀ t, Steps p.tables e below (T26.setTop (mkF m 42 #[.val (.long p1), .second, .val (.long p2), .second, .val (.long p3), .second, .val (.int p4), .val (.ref b1), .val (.ref b10), .val (.int md), .unset, .unset, .unset] [(.ref b1)])) t → Steps p.tables e below (s₁.setTop (entryFrame m #[(.long p1), (.long p2), (.long p3), (.int p4)] maxLocals)) t := fun t k => J22 t (st26.trans k)
    have Z29 : n0 ≤ T26.heap.size := Nat.le_trans Z14 K26.1
    have kz := Nat.le_trans kz K26.1
    have J30 : ∀ t, Steps p.tables e below (T26.setTop (mkF m 79 #[.val (.long p1), .second, .val (.long p2), .second, .val (.long p3), .second, .val (.int p4), .val (.ref b1), .val (.ref b10), .val (.int md), .unset, .unset, .unset] [(.long p1), (.ref b1)])) t → Steps p.tables e below (s₁.setTop (entryFrame m #[(.long p1), (.long p2), (.long p3), (.int p4)] maxLocals)) t := fun t k => J28 t (by
        show Steps p.tables e below (T26.setTop (mkF m 42 #[.val (.long p1), .second, .val (.long p2), .second, .val (.long p3), .second, .val (.int p4), .val (.ref b1), .val (.ref b10), .val (.int md), .unset, .unset, .unset] [(.ref b1)])) _
        refine XS.pop X26.here hx rfl (hb hby at_42) rfl rfl ?_
        show Steps p.tables e below (T26.setTop (mkF m 43 #[.val (.long p1), .second, .val (.long p2), .second, .val (.long p3), .second, .val (.int p4), .val (.ref b1), .val (.ref b10), .val (.int md), .unset, .unset, .unset] [])) _
        refine XS.goto X26.here hx rfl (pc0 := 43) (pc' := 76) rfl (hb hby at_43) (by decide) (by decide) ?_
        show Steps p.tables e below (T26.setTop (mkF m 76 #[.val (.long p1), .second, .val (.long p2), .second, .val (.long p3), .second, .val (.int p4), .val (.ref b1), .val (.ref b10), .val (.int md), .unset, .unset, .unset] [])) _
        refine XS.aload X26.here hx rfl (hb hby at_76) rfl rfl ?_
        show Steps p.tables e below (T26.setTop (mkF m 78 #[.val (.long p1), .second, .val (.long p2), .second, .val (.long p3), .second, .val (.int p4), .val (.ref b1), .val (.ref b10), .val (.int md), .unset, .unset, .unset] [(.ref b1)])) _
        refine XS.lloadN X26.here hx rfl (hb hby at_78) rfl ?_
        exact k)
    obtain ⟨cq31, kq31, q31a, q31b, q31c⟩ := isOf hZ rfl p26_1
    obtain ⟨_, _, ⟨T31, L31, k31, n31⟩, -, X31, ⟨Lc31, hQ31, l31, y31, z31⟩, st31⟩ := X26.virtualBack hx (y := (⟨"com/example/tranche/tranche/model/Amount", "set", "(J)Lcom/example/tranche/tranche/model/Amount;"⟩ : MethodName)) (z := (⟨"com/example/tranche/tranche/model/Amount", "set", "(J)Lcom/example/tranche/tranche/model/Amount;"⟩ : MethodName)) hown (mvT hZ (hw _ (List.mem_of_getElem? (i := 10) rfl))) (mvT hZ (hw _ (List.mem_of_getElem? (i := 11) rfl))) (notFace_of_selects (args := #[]) (mvT hZ (hw _ (List.mem_of_getElem? (i := 13) rfl)))) (mvT hZ (hw _ (List.mem_of_getElem? (i := 13) rfl))) (mvT hZ (hw _ (List.mem_of_getElem? (i := 12) rfl))) (by decide) (backOf (W := 0) (rm3 l Z a0 hw [] b1 p1 (.long p2) .null T26.heap n0 Z29 p26_1 ge3 p26_2 p26_3) hZ (hw _ (List.mem_of_getElem? (i := 14) rfl)) (hw _ (List.mem_of_getElem? (i := 2) rfl)) (by decide) (by decide)) q31a q31c (g := (mkF m 79 #[.val (.long p1), .second, .val (.long p2), .second, .val (.long p3), .second, .val (.int p4), .val (.ref b1), .val (.ref b10), .val (.int md), .unset, .unset, .unset] [(.long p1), (.ref b1)])) rfl (by rw [hml]; rfl) (Steps.refl _) (argsL := [(.long p1)]) (rest := []) (lenOf pd_23 rfl) rfl (by show 2 * 0 + _ ≤ _; exact Nat.le_of_eq rfl) (hb hby at_79) (fun _ _ => ⟨rfl, rfl, (by decide : 2 + 0 ≤ _), (by decide : 4 + 0 ≤ _)⟩)
    dsimp only [Pt.U, Pt.locs, Pt.cells, Pt.slots] at X31 l31 y31 z31 st31 hQ31
    subst y31 z31
    obtain ⟨rfl, Nq31, K31, p31_1, p31_2, p31_3⟩ := hQ31
    have N32 : Fr n0 L31 := by rw [l31]; exact Fr.app N27 Nq31
    have J33 : ∀ t, Steps p.tables e below (T31.setTop (mkF m 82 #[.val (.long p1), .second, .val (.long p2), .second, .val (.long p3), .second, .val (.int p4), .val (.ref b1), .val (.ref b10), .val (.int md), .unset, .unset, .unset] [(.ref b1)])) t → Steps p.tables e below (s₁.setTop (entryFrame m #[(.long p1), (.long p2), (.long p3), (.int p4)] maxLocals)) t := fun t k => J30 t (st31.trans k)
    have Z34 : n0 ≤ T31.heap.size := Nat.le_trans Z29 K31.1
    have kz := Nat.le_trans kz K31.1
    have J35 : ∀ t, Steps p.tables e below (T31.setTop (mkF m 88 #[.val (.long p1), .second, .val (.long p2), .second, .val (.long p3), .second, .val (.int p4), .val (.ref b1), .val (.ref b10), .val (.int md), .val (.ref b1), .unset, .unset] [(.long p3), (.ref b10)])) t → Steps p.tables e below (s₁.setTop (entryFrame m #[(.long p1), (.long p2), (.long p3), (.int p4)] maxLocals)) t := fun t k => J33 t (by
        show Steps p.tables e below (T31.setTop (mkF m 82 #[.val (.long p1), .second, .val (.long p2), .second, .val (.long p3), .second, .val (.int p4), .val (.ref b1), .val (.ref b10), .val (.int md), .unset, .unset, .unset] [(.ref b1)])) _
        refine XS.astore X31.here hx rfl (hb hby at_82) rfl rfl (l' := #[.val (.long p1), .second, .val (.long p2), .second, .val (.long p3), .second, .val (.int p4), .val (.ref b1), .val (.ref b10), .val (.int md), .val (.ref b1), .unset, .unset]) rfl ?_
        show Steps p.tables e below (T31.setTop (mkF m 84 #[.val (.long p1), .second, .val (.long p2), .second, .val (.long p3), .second, .val (.int p4), .val (.ref b1), .val (.ref b10), .val (.int md), .val (.ref b1), .unset, .unset] [])) _
        refine XS.aload X31.here hx rfl (hb hby at_84) rfl rfl ?_
        show Steps p.tables e below (T31.setTop (mkF m 86 #[.val (.long p1), .second, .val (.long p2), .second, .val (.long p3), .second, .val (.int p4), .val (.ref b1), .val (.ref b10), .val (.int md), .val (.ref b1), .unset, .unset] [(.ref b10)])) _
        refine XS.lload X31.here hx rfl (hb hby at_86) rfl ?_
        exact k)
    have f36 := A10.keep K26
    have f37 := f36.keep K31
    have f38 := F10_cents.keep K26 (ninS (Ne.symm ne12) nin0)
    have f39 := f38.keep K31 (ninS (Ne.symm ne12) nin0)
    have f40 := F10_wide.keep K26 (ninS (Ne.symm ne12) nin0)
    have f41 := f40.keep K31 (ninS (Ne.symm ne12) nin0)
    obtain ⟨cq42, kq42, q42a, q42b, q42c⟩ := isOf hZ rfl f37
    obtain ⟨_, _, ⟨T42, L42, k42, n42⟩, -, X42, ⟨Lc42, hQ42, l42, y42, z42⟩, st42⟩ := X31.virtualBack hx (y := (⟨"com/example/tranche/tranche/model/Amount", "set", "(J)Lcom/example/tranche/tranche/model/Amount;"⟩ : MethodName)) (z := (⟨"com/example/tranche/tranche/model/Amount", "set", "(J)Lcom/example/tranche/tranche/model/Amount;"⟩ : MethodName)) hown (mvT hZ (hw _ (List.mem_of_getElem? (i := 10) rfl))) (mvT hZ (hw _ (List.mem_of_getElem? (i := 11) rfl))) (notFace_of_selects (args := #[]) (mvT hZ (hw _ (List.mem_of_getElem? (i := 13) rfl)))) (mvT hZ (hw _ (List.mem_of_getElem? (i := 13) rfl))) (mvT hZ (hw _ (List.mem_of_getElem? (i := 12) rfl))) (by decide) (backOf (W := 0) (rm3 l Z a0 hw [] b10 p3 (.long (0 : Int64)) .null T31.heap n0 Z34 f37 ge13 f39 f41) hZ (hw _ (List.mem_of_getElem? (i := 14) rfl)) (hw _ (List.mem_of_getElem? (i := 2) rfl)) (by decide) (by decide)) q42a q42c (g := (mkF m 88 #[.val (.long p1), .second, .val (.long p2), .second, .val (.long p3), .second, .val (.int p4), .val (.ref b1), .val (.ref b10), .val (.int md), .val (.ref b1), .unset, .unset] [(.long p3), (.ref b10)])) rfl (by rw [hml]; rfl) (Steps.refl _) (argsL := [(.long p3)]) (rest := []) (lenOf pd_23 rfl) rfl (by show 2 * 0 + _ ≤ _; exact Nat.le_of_eq rfl) (hb hby at_88) (fun _ _ => ⟨rfl, rfl, (by decide : 2 + 0 ≤ _), (by decide : 4 + 0 ≤ _)⟩)
    dsimp only [Pt.U, Pt.locs, Pt.cells, Pt.slots] at X42 l42 y42 z42 st42 hQ42
    subst y42 z42
    obtain ⟨rfl, Nq42, K42, p42_1, p42_2, p42_3⟩ := hQ42
    have N43 : Fr n0 L42 := by rw [l42]; exact Fr.app N32 Nq42
    have J44 : ∀ t, Steps p.tables e below (T42.setTop (mkF m 91 #[.val (.long p1), .second, .val (.long p2), .second, .val (.long p3), .second, .val (.int p4), .val (.ref b1), .val (.ref b10), .val (.int md), .val (.ref b1), .unset, .unset] [(.ref b10)])) t → Steps p.tables e below (s₁.setTop (entryFrame m #[(.long p1), (.long p2), (.long p3), (.int p4)] maxLocals)) t := fun t k => J35 t (st42.trans k)
    have Z45 : n0 ≤ T42.heap.size := Nat.le_trans Z34 K42.1
    have kz := Nat.le_trans kz K42.1
    have J46 : ∀ t, Steps p.tables e below (T42.setTop (mkF m 103 #[.val (.long p1), .second, .val (.long p2), .second, .val (.long p3), .second, .val (.int p4), .val (.ref b1), .val (.ref b10), .val (.int md), .val (.ref b1), .unset, .unset] [(.ref b1)])) t → Steps p.tables e below (s₁.setTop (entryFrame m #[(.long p1), (.long p2), (.long p3), (.int p4)] maxLocals)) t := fun t k => J44 t (by
        show Steps p.tables e below (T42.setTop (mkF m 91 #[.val (.long p1), .second, .val (.long p2), .second, .val (.long p3), .second, .val (.int p4), .val (.ref b1), .val (.ref b10), .val (.int md), .val (.ref b1), .unset, .unset] [(.ref b10)])) _
        refine XS.pop X42.here hx rfl (hb hby at_91) rfl rfl ?_
        show Steps p.tables e below (T42.setTop (mkF m 92 #[.val (.long p1), .second, .val (.long p2), .second, .val (.long p3), .second, .val (.int p4), .val (.ref b1), .val (.ref b10), .val (.int md), .val (.ref b1), .unset, .unset] [])) _
        refine XS.aload X42.here hx rfl (hb hby at_92) rfl rfl ?_
        show Steps p.tables e below (T42.setTop (mkF m 94 #[.val (.long p1), .second, .val (.long p2), .second, .val (.long p3), .second, .val (.int p4), .val (.ref b1), .val (.ref b10), .val (.int md), .val (.ref b1), .unset, .unset] [(.ref b1)])) _
        refine XS.aload X42.here hx rfl (hb hby at_94) rfl rfl ?_
        show Steps p.tables e below (T42.setTop (mkF m 96 #[.val (.long p1), .second, .val (.long p2), .second, .val (.long p3), .second, .val (.int p4), .val (.ref b1), .val (.ref b10), .val (.int md), .val (.ref b1), .unset, .unset] [(.ref b1), (.ref b1)])) _
        refine Jvm.RoadKit.acmp (g := (mkF m 96 #[.val (.long p1), .second, .val (.long p2), .second, .val (.long p3), .second, .val (.int p4), .val (.ref b1), .val (.ref b10), .val (.int md), .val (.ref b1), .unset, .unset] [(.ref b1), (.ref b1)])) X42 hx rfl rfl rfl (pc0 := 96) (pc' := 101) (same := true) rfl (hb hby at_96) rfl (decide_eq_true rfl) (by decide) (by decide) ?_
        show Steps p.tables e below (T42.setTop (mkF m 101 #[.val (.long p1), .second, .val (.long p2), .second, .val (.long p3), .second, .val (.int p4), .val (.ref b1), .val (.ref b10), .val (.int md), .val (.ref b1), .unset, .unset] [])) _
        refine XS.aload X42.here hx rfl (hb hby at_101) rfl rfl ?_
        exact k)
    have f47 := p31_1.keep K42
    have f48 := p31_3.keep K42 (ninS ne12 nin0)
    obtain ⟨cq49, kq49, q49a, q49b, q49c⟩ := isOf hZ rfl f47
    obtain ⟨_, _, ⟨T49, L49, k49, n49⟩, -, X49, ⟨Lc49, hQ49, l49, y49, z49⟩, st49⟩ := X42.virtualBack hx (y := (⟨"com/example/tranche/tranche/model/Amount", "inCents", "()Z"⟩ : MethodName)) (z := (⟨"com/example/tranche/tranche/model/Amount", "inCents", "()Z"⟩ : MethodName)) hown (mvT hZ (hw _ (List.mem_of_getElem? (i := 231) rfl))) (mvT hZ (hw _ (List.mem_of_getElem? (i := 232) rfl))) (notFace_of_selects (args := #[]) (mvT hZ (hw _ (List.mem_of_getElem? (i := 234) rfl)))) (mvT hZ (hw _ (List.mem_of_getElem? (i := 234) rfl))) (mvT hZ (hw _ (List.mem_of_getElem? (i := 233) rfl))) (by decide) (backOf (W := 0) (rm37 l Z a0 hw [] b1 T42.heap n0 Z45 f48) hZ (hw _ (List.mem_of_getElem? (i := 235) rfl)) (hw _ (List.mem_of_getElem? (i := 2) rfl)) (by decide) (by decide)) q49a q49c (g := (mkF m 103 #[.val (.long p1), .second, .val (.long p2), .second, .val (.long p3), .second, .val (.int p4), .val (.ref b1), .val (.ref b10), .val (.int md), .val (.ref b1), .unset, .unset] [(.ref b1)])) rfl (by rw [hml]; rfl) (Steps.refl _) (argsL := []) (rest := []) (lenOf pd_24 rfl) rfl (by show 2 * 0 + _ ≤ _; exact Nat.le_of_eq rfl) (hb hby at_103) (fun _ _ => ⟨rfl, rfl, (by decide : 2 + 0 ≤ _), (by decide : 4 + 0 ≤ _)⟩)
    dsimp only [Pt.U, Pt.locs, Pt.cells, Pt.slots] at X49 l49 y49 z49 st49 hQ49
    subst y49 z49
    obtain ⟨rfl, Nq49, e49⟩ := hQ49
    have N50 : Fr n0 L49 := by rw [l49]; exact Fr.app N43 Nq49
    have J51 : ∀ t, Steps p.tables e below (T49.setTop (mkF m 106 #[.val (.long p1), .second, .val (.long p2), .second, .val (.long p3), .second, .val (.int p4), .val (.ref b1), .val (.ref b10), .val (.int md), .val (.ref b1), .unset, .unset] [(.int (1 : Int32))])) t → Steps p.tables e below (s₁.setTop (entryFrame m #[(.long p1), (.long p2), (.long p3), (.int p4)] maxLocals)) t := fun t k => J46 t (st49.trans k)
    have J52 : ∀ t, Steps p.tables e below (T49.setTop (mkF m 113 #[.val (.long p1), .second, .val (.long p2), .second, .val (.long p3), .second, .val (.int p4), .val (.ref b1), .val (.ref b10), .val (.int md), .val (.ref b1), .unset, .unset] [(.ref b1)])) t → Steps p.tables e below (s₁.setTop (entryFrame m #[(.long p1), (.long p2), (.long p3), (.int p4)] maxLocals)) t := fun t k => J51 t (by
        show Steps p.tables e below (T49.setTop (mkF m 106 #[.val (.long p1), .second, .val (.long p2), .second, .val (.long p3), .second, .val (.int p4), .val (.ref b1), .val (.ref b10), .val (.int md), .val (.ref b1), .unset, .unset] [(.int (1 : Int32))])) _
        refine XS.ifYes X49.here hx rfl (pc0 := 106) (pc' := 111) rfl (hb hby at_106) rfl ((if0 _ _).trans (feq (by decide)).2) (by decide) (by decide) ?_
        show Steps p.tables e below (T49.setTop (mkF m 111 #[.val (.long p1), .second, .val (.long p2), .second, .val (.long p3), .second, .val (.int p4), .val (.ref b1), .val (.ref b10), .val (.int md), .val (.ref b1), .unset, .unset] [])) _
        refine XS.aload X49.here hx rfl (hb hby at_111) rfl rfl ?_
        exact k)
    have f53 := p31_2.keep K42 (ninS ne12 nin0)
    obtain ⟨cq54, kq54, q54a, q54b, q54c⟩ := isOf hZ e49 f47
    obtain ⟨_, _, ⟨T54, L54, k54, n54⟩, -, X54, ⟨Lc54, hQ54, l54, y54, z54⟩, st54⟩ := X49.virtualBack hx (y := (⟨"com/example/tranche/tranche/model/Amount", "cents", "()J"⟩ : MethodName)) (z := (⟨"com/example/tranche/tranche/model/Amount", "cents", "()J"⟩ : MethodName)) hown (mvT hZ (hw _ (List.mem_of_getElem? (i := 236) rfl))) (mvT hZ (hw _ (List.mem_of_getElem? (i := 237) rfl))) (notFace_of_selects (args := #[]) (mvT hZ (hw _ (List.mem_of_getElem? (i := 239) rfl)))) (mvT hZ (hw _ (List.mem_of_getElem? (i := 239) rfl))) (mvT hZ (hw _ (List.mem_of_getElem? (i := 238) rfl))) (by decide) (backOf (W := 0) (rm38 l Z a0 hw [] b1 p1 T42.heap n0 Z45 f53 f48) hZ (hw _ (List.mem_of_getElem? (i := 240) rfl)) (hw _ (List.mem_of_getElem? (i := 2) rfl)) (by decide) (by decide)) q54a q54c (g := (mkF m 113 #[.val (.long p1), .second, .val (.long p2), .second, .val (.long p3), .second, .val (.int p4), .val (.ref b1), .val (.ref b10), .val (.int md), .val (.ref b1), .unset, .unset] [(.ref b1)])) rfl (by rw [hml]; rfl) (Steps.refl _) (argsL := []) (rest := []) (lenOf pd_25 rfl) rfl (by show 2 * 0 + _ ≤ _; exact Nat.le_of_eq rfl) (hb hby at_113) (fun _ _ => ⟨rfl, e49, (by decide : 2 + 0 ≤ _), (by decide : 4 + 0 ≤ _)⟩)
    dsimp only [Pt.U, Pt.locs, Pt.cells, Pt.slots] at X54 l54 y54 z54 st54 hQ54
    subst y54 z54
    obtain ⟨rfl, Nq54, e54⟩ := hQ54
    have N55 : Fr n0 L54 := by rw [l54]; exact Fr.app N50 Nq54
    have J56 : ∀ t, Steps p.tables e below (T54.setTop (mkF m 116 #[.val (.long p1), .second, .val (.long p2), .second, .val (.long p3), .second, .val (.int p4), .val (.ref b1), .val (.ref b10), .val (.int md), .val (.ref b1), .unset, .unset] [(.long p1)])) t → Steps p.tables e below (s₁.setTop (entryFrame m #[(.long p1), (.long p2), (.long p3), (.int p4)] maxLocals)) t := fun t k => J52 t (st54.trans k)
    have J57 : ∀ t, Steps p.tables e below (T54.setTop (mkF m 123 #[.val (.long p1), .second, .val (.long p2), .second, .val (.long p3), .second, .val (.int p4), .val (.ref b1), .val (.ref b10), .val (.int md), .val (.ref b1), .unset, .unset] [])) t → Steps p.tables e below (s₁.setTop (entryFrame m #[(.long p1), (.long p2), (.long p3), (.int p4)] maxLocals)) t := fun t k => J56 t (by
        show Steps p.tables e below (T54.setTop (mkF m 116 #[.val (.long p1), .second, .val (.long p2), .second, .val (.long p3), .second, .val (.int p4), .val (.ref b1), .val (.ref b10), .val (.int md), .val (.ref b1), .unset, .unset] [(.long p1)])) _
        refine XS.lloadN X54.here hx rfl (hb hby at_116) rfl ?_
        show Steps p.tables e below (T54.setTop (mkF m 117 #[.val (.long p1), .second, .val (.long p2), .second, .val (.long p3), .second, .val (.int p4), .val (.ref b1), .val (.ref b10), .val (.int md), .val (.ref b1), .unset, .unset] [(.long p1), (.long p1)])) _
        refine XS.lcmp X54.here hx rfl (hb hby at_117) rfl ?_
        show Steps p.tables e below (T54.setTop (mkF m 118 #[.val (.long p1), .second, .val (.long p2), .second, .val (.long p3), .second, .val (.int p4), .val (.ref b1), .val (.ref b10), .val (.int md), .val (.ref b1), .unset, .unset] [(.int (lcmpW p1 p1))])) _
        refine XS.ifYes X54.here hx rfl (pc0 := 118) (pc' := 123) rfl (hb hby at_118) rfl ((if0 _ _).trans (teq (own_l3 p1)).1) (by decide) (by decide) ?_
        exact k)
    obtain ⟨sv, hsv⟩ : ∃ z : Int32, z = (if (0 : Int32) < (lcmpW p1 (0 : Int64)) then (1 : Int32) else (if (lcmpW p1 (0 : Int64)) < (0 : Int32) then (-1 : Int32) else (0 : Int32))) := ⟨_, rfl⟩
    have ps58 : ∀ t, Steps p.tables e below (T54.setTop (mkF m 144 #[.val (.long p1), .second, .val (.long p2), .second, .val (.long p3), .second, .val (.int p4), .val (.ref b1), .val (.ref b10), .val (.int md), .val (.ref b1), .unset, .unset] [(.int sv)])) t → Steps p.tables e below (T54.setTop (mkF m 123 #[.val (.long p1), .second, .val (.long p2), .second, .val (.long p3), .second, .val (.int p4), .val (.ref b1), .val (.ref b10), .val (.int md), .val (.ref b1), .unset, .unset] [])) t := by
      intro t k
      show Steps p.tables e below (T54.setTop (mkF m 123 #[.val (.long p1), .second, .val (.long p2), .second, .val (.long p3), .second, .val (.int p4), .val (.ref b1), .val (.ref b10), .val (.int md), .val (.ref b1), .unset, .unset] [])) _
      refine XS.lloadN X54.here hx rfl (hb hby at_123) rfl ?_
      show Steps p.tables e below (T54.setTop (mkF m 124 #[.val (.long p1), .second, .val (.long p2), .second, .val (.long p3), .second, .val (.int p4), .val (.ref b1), .val (.ref b10), .val (.int md), .val (.ref b1), .unset, .unset] [(.long p1)])) _
      refine XS.lconst X54.here hx rfl (hb hby at_124) ?_
      show Steps p.tables e below (T54.setTop (mkF m 125 #[.val (.long p1), .second, .val (.long p2), .second, .val (.long p3), .second, .val (.int p4), .val (.ref b1), .val (.ref b10), .val (.int md), .val (.ref b1), .unset, .unset] [(.long (0 : Int64)), (.long p1)])) _
      refine XS.lcmp X54.here hx rfl (hb hby at_125) rfl ?_
      by_cases hm126_0 : (0 : Int32) < (lcmpW p1 (0 : Int64))
      ·
        show Steps p.tables e below (T54.setTop (mkF m 126 #[.val (.long p1), .second, .val (.long p2), .second, .val (.long p3), .second, .val (.int p4), .val (.ref b1), .val (.ref b10), .val (.int md), .val (.ref b1), .unset, .unset] [(.int (lcmpW p1 (0 : Int64)))])) _
        refine XS.ifNo X54.here hx rfl (hb hby at_126) rfl ((if0 _ _).trans (tlt hm126_0).2.2.2) ?_
        show Steps p.tables e below (T54.setTop (mkF m 129 #[.val (.long p1), .second, .val (.long p2), .second, .val (.long p3), .second, .val (.int p4), .val (.ref b1), .val (.ref b10), .val (.int md), .val (.ref b1), .unset, .unset] [])) _
        refine XS.iconst X54.here hx rfl (hb hby at_129) ?_
        show Steps p.tables e below (T54.setTop (mkF m 130 #[.val (.long p1), .second, .val (.long p2), .second, .val (.long p3), .second, .val (.int p4), .val (.ref b1), .val (.ref b10), .val (.int md), .val (.ref b1), .unset, .unset] [(.int (1 : Int32))])) _
        refine XS.goto X54.here hx rfl (pc0 := 130) (pc' := 144) rfl (hb hby at_130) (by decide) (by decide) ?_
        have qsv : sv = (1 : Int32) := by rw [hsv]; first | (simp only [hm126_0, if_true, if_false, reduceIte]; done) | simp [hm126_0]
        rw [qsv] at k
        exact k
      ·
        show Steps p.tables e below (T54.setTop (mkF m 126 #[.val (.long p1), .second, .val (.long p2), .second, .val (.long p3), .second, .val (.int p4), .val (.ref b1), .val (.ref b10), .val (.int md), .val (.ref b1), .unset, .unset] [(.int (lcmpW p1 (0 : Int64)))])) _
        refine XS.ifYes X54.here hx rfl (pc0 := 126) (pc' := 133) rfl (hb hby at_126) rfl ((if0 _ _).trans (flt hm126_0).2.2.2) (by decide) (by decide) ?_
        show Steps p.tables e below (T54.setTop (mkF m 133 #[.val (.long p1), .second, .val (.long p2), .second, .val (.long p3), .second, .val (.int p4), .val (.ref b1), .val (.ref b10), .val (.int md), .val (.ref b1), .unset, .unset] [])) _
        refine XS.lloadN X54.here hx rfl (hb hby at_133) rfl ?_
        show Steps p.tables e below (T54.setTop (mkF m 134 #[.val (.long p1), .second, .val (.long p2), .second, .val (.long p3), .second, .val (.int p4), .val (.ref b1), .val (.ref b10), .val (.int md), .val (.ref b1), .unset, .unset] [(.long p1)])) _
        refine XS.lconst X54.here hx rfl (hb hby at_134) ?_
        show Steps p.tables e below (T54.setTop (mkF m 135 #[.val (.long p1), .second, .val (.long p2), .second, .val (.long p3), .second, .val (.int p4), .val (.ref b1), .val (.ref b10), .val (.int md), .val (.ref b1), .unset, .unset] [(.long (0 : Int64)), (.long p1)])) _
        refine XS.lcmp X54.here hx rfl (hb hby at_135) rfl ?_
        by_cases hm136_1 : (lcmpW p1 (0 : Int64)) < (0 : Int32)
        ·
          show Steps p.tables e below (T54.setTop (mkF m 136 #[.val (.long p1), .second, .val (.long p2), .second, .val (.long p3), .second, .val (.int p4), .val (.ref b1), .val (.ref b10), .val (.int md), .val (.ref b1), .unset, .unset] [(.int (lcmpW p1 (0 : Int64)))])) _
          refine XS.ifNo X54.here hx rfl (hb hby at_136) rfl ((if0 _ _).trans (tlt hm136_1).2.1) ?_
          show Steps p.tables e below (T54.setTop (mkF m 139 #[.val (.long p1), .second, .val (.long p2), .second, .val (.long p3), .second, .val (.int p4), .val (.ref b1), .val (.ref b10), .val (.int md), .val (.ref b1), .unset, .unset] [])) _
          refine XS.iconst X54.here hx rfl (hb hby at_139) ?_
          show Steps p.tables e below (T54.setTop (mkF m 140 #[.val (.long p1), .second, .val (.long p2), .second, .val (.long p3), .second, .val (.int p4), .val (.ref b1), .val (.ref b10), .val (.int md), .val (.ref b1), .unset, .unset] [(.int (-1 : Int32))])) _
          refine XS.goto X54.here hx rfl (pc0 := 140) (pc' := 144) rfl (hb hby at_140) (by decide) (by decide) ?_
          have qsv : sv = (-1 : Int32) := by rw [hsv]; first | (simp only [hm126_0, hm136_1, if_true, if_false, reduceIte]; done) | simp [hm126_0, hm136_1]
          rw [qsv] at k
          exact k
        ·
          show Steps p.tables e below (T54.setTop (mkF m 136 #[.val (.long p1), .second, .val (.long p2), .second, .val (.long p3), .second, .val (.int p4), .val (.ref b1), .val (.ref b10), .val (.int md), .val (.ref b1), .unset, .unset] [(.int (lcmpW p1 (0 : Int64)))])) _
          refine XS.ifYes X54.here hx rfl (pc0 := 136) (pc' := 143) rfl (hb hby at_136) rfl ((if0 _ _).trans (flt hm136_1).2.1) (by decide) (by decide) ?_
          show Steps p.tables e below (T54.setTop (mkF m 143 #[.val (.long p1), .second, .val (.long p2), .second, .val (.long p3), .second, .val (.int p4), .val (.ref b1), .val (.ref b10), .val (.int md), .val (.ref b1), .unset, .unset] [])) _
          refine XS.iconst X54.here hx rfl (hb hby at_143) ?_
          have qsv : sv = (0 : Int32) := by rw [hsv]; first | (simp only [hm126_0, hm136_1, if_true, if_false, reduceIte]; done) | simp [hm126_0, hm136_1]
          rw [qsv] at k
          exact k
    have J59 : ∀ t, Steps p.tables e below (T54.setTop (mkF m 144 #[.val (.long p1), .second, .val (.long p2), .second, .val (.long p3), .second, .val (.int p4), .val (.ref b1), .val (.ref b10), .val (.int md), .val (.ref b1), .unset, .unset] [(.int sv)])) t → Steps p.tables e below (s₁.setTop (entryFrame m #[(.long p1), (.long p2), (.long p3), (.int p4)] maxLocals)) t := fun t k => J57 t (ps58 t k)
    have J60 : ∀ t, Steps p.tables e below (T54.setTop (mkF m 148 #[.val (.long p1), .second, .val (.long p2), .second, .val (.long p3), .second, .val (.int p4), .val (.ref b1), .val (.ref b10), .val (.int md), .val (.ref b1), .val (.int sv), .unset] [(.ref b1)])) t → Steps p.tables e below (s₁.setTop (entryFrame m #[(.long p1), (.long p2), (.long p3), (.int p4)] maxLocals)) t := fun t k => J59 t (by
        show Steps p.tables e below (T54.setTop (mkF m 144 #[.val (.long p1), .second, .val (.long p2), .second, .val (.long p3), .second, .val (.int p4), .val (.ref b1), .val (.ref b10), .val (.int md), .val (.ref b1), .unset, .unset] [(.int sv)])) _
        refine XS.istore X54.here hx rfl (hb hby at_144) rfl (l' := #[.val (.long p1), .second, .val (.long p2), .second, .val (.long p3), .second, .val (.int p4), .val (.ref b1), .val (.ref b10), .val (.int md), .val (.ref b1), .val (.int sv), .unset]) rfl ?_
        show Steps p.tables e below (T54.setTop (mkF m 146 #[.val (.long p1), .second, .val (.long p2), .second, .val (.long p3), .second, .val (.int p4), .val (.ref b1), .val (.ref b10), .val (.int md), .val (.ref b1), .val (.int sv), .unset] [])) _
        refine XS.aload X54.here hx rfl (hb hby at_146) rfl rfl ?_
        exact k)
    obtain ⟨cq61, kq61, q61a, q61b, q61c⟩ := isOf hZ e54 f47
    obtain ⟨_, _, ⟨T61, L61, k61, n61⟩, -, X61, ⟨Lc61, hQ61, l61, y61, z61⟩, st61⟩ := X54.virtualBack hx (y := (⟨"com/example/tranche/tranche/model/Amount", "signum", "()I"⟩ : MethodName)) (z := (⟨"com/example/tranche/tranche/model/Amount", "signum", "()I"⟩ : MethodName)) hown (mvT hZ (hw _ (List.mem_of_getElem? (i := 241) rfl))) (mvT hZ (hw _ (List.mem_of_getElem? (i := 242) rfl))) (notFace_of_selects (args := #[]) (mvT hZ (hw _ (List.mem_of_getElem? (i := 244) rfl)))) (mvT hZ (hw _ (List.mem_of_getElem? (i := 244) rfl))) (mvT hZ (hw _ (List.mem_of_getElem? (i := 243) rfl))) (by decide) (backOf (W := 0) (rm39 l Z a0 hw [] b1 p1 T42.heap n0 Z45 f53 f48) hZ (hw _ (List.mem_of_getElem? (i := 245) rfl)) (hw _ (List.mem_of_getElem? (i := 2) rfl)) (by decide) (by decide)) q61a q61c (g := (mkF m 148 #[.val (.long p1), .second, .val (.long p2), .second, .val (.long p3), .second, .val (.int p4), .val (.ref b1), .val (.ref b10), .val (.int md), .val (.ref b1), .val (.int sv), .unset] [(.ref b1)])) rfl (by rw [hml]; rfl) (Steps.refl _) (argsL := []) (rest := []) (lenOf pd_18 rfl) rfl (by show 2 * 0 + _ ≤ _; exact Nat.le_of_eq rfl) (hb hby at_148) (fun _ _ => ⟨rfl, e54, (by decide : 2 + 0 ≤ _), (by decide : 4 + 0 ≤ _)⟩)
    dsimp only [Pt.U, Pt.locs, Pt.cells, Pt.slots] at X61 l61 y61 z61 st61 hQ61
    subst y61 z61
    obtain ⟨rfl, Nq61, e61⟩ := hQ61
    have N62 : Fr n0 L61 := by rw [l61]; exact Fr.app N55 Nq61
    have J63 : ∀ t, Steps p.tables e below (T61.setTop (mkF m 151 #[.val (.long p1), .second, .val (.long p2), .second, .val (.long p3), .second, .val (.int p4), .val (.ref b1), .val (.ref b10), .val (.int md), .val (.ref b1), .val (.int sv), .unset] [(.int (own_sg p1))])) t → Steps p.tables e below (s₁.setTop (entryFrame m #[(.long p1), (.long p2), (.long p3), (.int p4)] maxLocals)) t := fun t k => J60 t (st61.trans k)
    have J64 : ∀ t, Steps p.tables e below (T61.setTop (mkF m 162 #[.val (.long p1), .second, .val (.long p2), .second, .val (.long p3), .second, .val (.int p4), .val (.ref b1), .val (.ref b10), .val (.int md), .val (.ref b1), .val (.int sv), .unset] [(.ref b10), (.ref b1)])) t → Steps p.tables e below (s₁.setTop (entryFrame m #[(.long p1), (.long p2), (.long p3), (.int p4)] maxLocals)) t := fun t k => J63 t (by
        show Steps p.tables e below (T61.setTop (mkF m 151 #[.val (.long p1), .second, .val (.long p2), .second, .val (.long p3), .second, .val (.int p4), .val (.ref b1), .val (.ref b10), .val (.int md), .val (.ref b1), .val (.int sv), .unset] [(.int (own_sg p1))])) _
        refine XS.iload X61.here hx rfl (hb hby at_151) rfl ?_
        show Steps p.tables e below (T61.setTop (mkF m 153 #[.val (.long p1), .second, .val (.long p2), .second, .val (.long p3), .second, .val (.int p4), .val (.ref b1), .val (.ref b10), .val (.int md), .val (.ref b1), .val (.int sv), .unset] [(.int sv), (.int (own_sg p1))])) _
        refine XS.icmpYes X61.here hx rfl (pc0 := 153) (pc' := 158) rfl (hb hby at_153) rfl (teq (own_sgn p1 sv hsv)).1 (by decide) (by decide) ?_
        show Steps p.tables e below (T61.setTop (mkF m 158 #[.val (.long p1), .second, .val (.long p2), .second, .val (.long p3), .second, .val (.int p4), .val (.ref b1), .val (.ref b10), .val (.int md), .val (.ref b1), .val (.int sv), .unset] [])) _
        refine XS.aload X61.here hx rfl (hb hby at_158) rfl rfl ?_
        show Steps p.tables e below (T61.setTop (mkF m 160 #[.val (.long p1), .second, .val (.long p2), .second, .val (.long p3), .second, .val (.int p4), .val (.ref b1), .val (.ref b10), .val (.int md), .val (.ref b1), .val (.int sv), .unset] [(.ref b1)])) _
        refine XS.aload X61.here hx rfl (hb hby at_160) rfl rfl ?_
        exact k)
    obtain ⟨cq65, kq65, q65a, q65b, q65c⟩ := isOf hZ e61 f47
    obtain ⟨_, _, ⟨T65, L65, k65, n65⟩, -, X65, ⟨Lc65, hQ65, l65, y65, z65⟩, st65⟩ := X61.virtualBack hx (y := (⟨"com/example/tranche/tranche/model/Amount", "compareTo", "(Lcom/example/tranche/tranche/model/Amount;)I"⟩ : MethodName)) (z := (⟨"com/example/tranche/tranche/model/Amount", "compareTo", "(Lcom/example/tranche/tranche/model/Amount;)I"⟩ : MethodName)) hown (mvT hZ (hw _ (List.mem_of_getElem? (i := 247) rfl))) (mvT hZ (hw _ (List.mem_of_getElem? (i := 248) rfl))) (notFace_of_selects (args := #[]) (mvT hZ (hw _ (List.mem_of_getElem? (i := 250) rfl)))) (mvT hZ (hw _ (List.mem_of_getElem? (i := 250) rfl))) (mvT hZ (hw _ (List.mem_of_getElem? (i := 249) rfl))) (by decide) (backOf (W := 0) (rm40 l Z a0 hw [] b1 b10 p1 p3 T42.heap n0 Z45 f53 f48 p42_2 p42_3) hZ (hw _ (List.mem_of_getElem? (i := 251) rfl)) (hw _ (List.mem_of_getElem? (i := 2) rfl)) (by decide) (by decide)) q65a q65c (g := (mkF m 162 #[.val (.long p1), .second, .val (.long p2), .second, .val (.long p3), .second, .val (.int p4), .val (.ref b1), .val (.ref b10), .val (.int md), .val (.ref b1), .val (.int sv), .unset] [(.ref b10), (.ref b1)])) rfl (by rw [hml]; rfl) (Steps.refl _) (argsL := [(.ref b10)]) (rest := []) (lenOf pd_26 rfl) rfl (by show 2 * 0 + _ ≤ _; exact Nat.le_of_eq rfl) (hb hby at_162) (fun _ _ => ⟨rfl, e61, (by decide : 2 + 0 ≤ _), (by decide : 4 + 0 ≤ _)⟩)
    dsimp only [Pt.U, Pt.locs, Pt.cells, Pt.slots] at X65 l65 y65 z65 st65 hQ65
    subst y65 z65
    obtain ⟨rfl, Nq65, e65⟩ := hQ65
    have N66 : Fr n0 L65 := by rw [l65]; exact Fr.app N62 Nq65
    have J67 : ∀ t, Steps p.tables e below (T65.setTop (mkF m 165 #[.val (.long p1), .second, .val (.long p2), .second, .val (.long p3), .second, .val (.int p4), .val (.ref b1), .val (.ref b10), .val (.int md), .val (.ref b1), .val (.int sv), .unset] [(.int (own_cmp p1 p3))])) t → Steps p.tables e below (s₁.setTop (entryFrame m #[(.long p1), (.long p2), (.long p3), (.int p4)] maxLocals)) t := fun t k => J64 t (st65.trans k)
    have J68 : ∀ t, Steps p.tables e below (T65.setTop (mkF m 171 #[.val (.long p1), .second, .val (.long p2), .second, .val (.long p3), .second, .val (.int p4), .val (.ref b1), .val (.ref b10), .val (.int md), .val (.ref b1), .val (.int sv), .val (.int (own_cmp p1 p3))] [(.int (lcmpW p1 p3))])) t → Steps p.tables e below (s₁.setTop (entryFrame m #[(.long p1), (.long p2), (.long p3), (.int p4)] maxLocals)) t := fun t k => J67 t (by
        show Steps p.tables e below (T65.setTop (mkF m 165 #[.val (.long p1), .second, .val (.long p2), .second, .val (.long p3), .second, .val (.int p4), .val (.ref b1), .val (.ref b10), .val (.int md), .val (.ref b1), .val (.int sv), .unset] [(.int (own_cmp p1 p3))])) _
        refine XS.istore X65.here hx rfl (hb hby at_165) rfl (l' := #[.val (.long p1), .second, .val (.long p2), .second, .val (.long p3), .second, .val (.int p4), .val (.ref b1), .val (.ref b10), .val (.int md), .val (.ref b1), .val (.int sv), .val (.int (own_cmp p1 p3))]) rfl ?_
        show Steps p.tables e below (T65.setTop (mkF m 167 #[.val (.long p1), .second, .val (.long p2), .second, .val (.long p3), .second, .val (.int p4), .val (.ref b1), .val (.ref b10), .val (.int md), .val (.ref b1), .val (.int sv), .val (.int (own_cmp p1 p3))] [])) _
        refine XS.lloadN X65.here hx rfl (hb hby at_167) rfl ?_
        show Steps p.tables e below (T65.setTop (mkF m 168 #[.val (.long p1), .second, .val (.long p2), .second, .val (.long p3), .second, .val (.int p4), .val (.ref b1), .val (.ref b10), .val (.int md), .val (.ref b1), .val (.int sv), .val (.int (own_cmp p1 p3))] [(.long p1)])) _
        refine XS.lload X65.here hx rfl (hb hby at_168) rfl ?_
        show Steps p.tables e below (T65.setTop (mkF m 170 #[.val (.long p1), .second, .val (.long p2), .second, .val (.long p3), .second, .val (.int p4), .val (.ref b1), .val (.ref b10), .val (.int md), .val (.ref b1), .val (.int sv), .val (.int (own_cmp p1 p3))] [(.long p3), (.long p1)])) _
        refine XS.lcmp X65.here hx rfl (hb hby at_170) rfl ?_
        exact k)
    by_cases hlt : p1 < p3
    ·
      have J69 : ∀ t, Steps p.tables e below (T65.setTop (mkF m 184 #[.val (.long p1), .second, .val (.long p2), .second, .val (.long p3), .second, .val (.int p4), .val (.ref b1), .val (.ref b10), .val (.int md), .val (.ref b1), .val (.int sv), .val (.int (own_cmp p1 p3))] [(.int (1 : Int32))])) t → Steps p.tables e below (s₁.setTop (entryFrame m #[(.long p1), (.long p2), (.long p3), (.int p4)] maxLocals)) t := fun t k => J68 t (by
          show Steps p.tables e below (T65.setTop (mkF m 171 #[.val (.long p1), .second, .val (.long p2), .second, .val (.long p3), .second, .val (.int p4), .val (.ref b1), .val (.ref b10), .val (.int md), .val (.ref b1), .val (.int sv), .val (.int (own_cmp p1 p3))] [(.int (lcmpW p1 p3))])) _
          refine XS.ifNo X65.here hx rfl (hb hby at_171) rfl ((if0 _ _).trans (tlt (by rw [own_l1 hlt]; decide)).2.1) ?_
          show Steps p.tables e below (T65.setTop (mkF m 174 #[.val (.long p1), .second, .val (.long p2), .second, .val (.long p3), .second, .val (.int p4), .val (.ref b1), .val (.ref b10), .val (.int md), .val (.ref b1), .val (.int sv), .val (.int (own_cmp p1 p3))] [])) _
          refine XS.iload X65.here hx rfl (hb hby at_174) rfl ?_
          show Steps p.tables e below (T65.setTop (mkF m 176 #[.val (.long p1), .second, .val (.long p2), .second, .val (.long p3), .second, .val (.int p4), .val (.ref b1), .val (.ref b10), .val (.int md), .val (.ref b1), .val (.int sv), .val (.int (own_cmp p1 p3))] [(.int (own_cmp p1 p3))])) _
          refine XS.ifNo X65.here hx rfl (hb hby at_176) rfl ((if0 _ _).trans (tlt (by rw [own_c1 hlt]; decide)).2.1) ?_
          show Steps p.tables e below (T65.setTop (mkF m 179 #[.val (.long p1), .second, .val (.long p2), .second, .val (.long p3), .second, .val (.int p4), .val (.ref b1), .val (.ref b10), .val (.int md), .val (.ref b1), .val (.int sv), .val (.int (own_cmp p1 p3))] [])) _
          refine XS.iconst X65.here hx rfl (hb hby at_179) ?_
          show Steps p.tables e below (T65.setTop (mkF m 180 #[.val (.long p1), .second, .val (.long p2), .second, .val (.long p3), .second, .val (.int p4), .val (.ref b1), .val (.ref b10), .val (.int md), .val (.ref b1), .val (.int sv), .val (.int (own_cmp p1 p3))] [(.int (1 : Int32))])) _
          refine XS.goto X65.here hx rfl (pc0 := 180) (pc' := 184) rfl (hb hby at_180) (by decide) (by decide) ?_
          exact k)
      obtain ⟨fs, hr, hrun, hended, hWW⟩ := X65.leaveW hSi (by rw [e65]; exact kz) (v := some (.int (1 : Int32))) (fun h => by rw [Bd.returns] at h; cases h)
      refine ⟨_, _, J69 _ ?_, hrun, hended, _, _, rfl, ?_, hWW.1, hWW.2.1, hWW.2.2.1, hWW.2.2.2.mono (by decide) (by decide)⟩
      · show Steps p.tables e below (T65.setTop (mkF m 184 #[.val (.long p1), .second, .val (.long p2), .second, .val (.long p3), .second, .val (.int p4), .val (.ref b1), .val (.ref b10), .val (.int md), .val (.ref b1), .val (.int sv), .val (.int (own_cmp p1 p3))] [(.int (1 : Int32))])) _
        exact retN X65 hx (t := .boolean) Bd.returns (by simp) (hb hby at_184) hr
      · show Q0 Z p1 p2 p3 p4 h0 n0 _ T65.heap _
        rw [e65]
        exact ⟨rfl, N66⟩
    ·
      have J70 : ∀ t, Steps p.tables e below (T65.setTop (mkF m 189 #[.val (.long p1), .second, .val (.long p2), .second, .val (.long p3), .second, .val (.int p4), .val (.ref b1), .val (.ref b10), .val (.int md), .val (.ref b1), .val (.int sv), .val (.int (own_cmp p1 p3))] [(.int (lcmpW p1 p3))])) t → Steps p.tables e below (s₁.setTop (entryFrame m #[(.long p1), (.long p2), (.long p3), (.int p4)] maxLocals)) t := fun t k => J68 t (by
          show Steps p.tables e below (T65.setTop (mkF m 171 #[.val (.long p1), .second, .val (.long p2), .second, .val (.long p3), .second, .val (.int p4), .val (.ref b1), .val (.ref b10), .val (.int md), .val (.ref b1), .val (.int sv), .val (.int (own_cmp p1 p3))] [(.int (lcmpW p1 p3))])) _
          refine XS.ifYes X65.here hx rfl (pc0 := 171) (pc' := 185) rfl (hb hby at_171) rfl ((if0 _ _).trans (flt (own_n1 hlt)).2.1) (by decide) (by decide) ?_
          show Steps p.tables e below (T65.setTop (mkF m 185 #[.val (.long p1), .second, .val (.long p2), .second, .val (.long p3), .second, .val (.int p4), .val (.ref b1), .val (.ref b10), .val (.int md), .val (.ref b1), .val (.int sv), .val (.int (own_cmp p1 p3))] [])) _
          refine XS.lloadN X65.here hx rfl (hb hby at_185) rfl ?_
          show Steps p.tables e below (T65.setTop (mkF m 186 #[.val (.long p1), .second, .val (.long p2), .second, .val (.long p3), .second, .val (.int p4), .val (.ref b1), .val (.ref b10), .val (.int md), .val (.ref b1), .val (.int sv), .val (.int (own_cmp p1 p3))] [(.long p1)])) _
          refine XS.lload X65.here hx rfl (hb hby at_186) rfl ?_
          show Steps p.tables e below (T65.setTop (mkF m 188 #[.val (.long p1), .second, .val (.long p2), .second, .val (.long p3), .second, .val (.int p4), .val (.ref b1), .val (.ref b10), .val (.int md), .val (.ref b1), .val (.int sv), .val (.int (own_cmp p1 p3))] [(.long p3), (.long p1)])) _
          refine XS.lcmp X65.here hx rfl (hb hby at_188) rfl ?_
          exact k)
      by_cases hgt : p3 < p1
      ·
        have J71 : ∀ t, Steps p.tables e below (T65.setTop (mkF m 202 #[.val (.long p1), .second, .val (.long p2), .second, .val (.long p3), .second, .val (.int p4), .val (.ref b1), .val (.ref b10), .val (.int md), .val (.ref b1), .val (.int sv), .val (.int (own_cmp p1 p3))] [(.int (1 : Int32))])) t → Steps p.tables e below (s₁.setTop (entryFrame m #[(.long p1), (.long p2), (.long p3), (.int p4)] maxLocals)) t := fun t k => J70 t (by
            show Steps p.tables e below (T65.setTop (mkF m 189 #[.val (.long p1), .second, .val (.long p2), .second, .val (.long p3), .second, .val (.int p4), .val (.ref b1), .val (.ref b10), .val (.int md), .val (.ref b1), .val (.int sv), .val (.int (own_cmp p1 p3))] [(.int (lcmpW p1 p3))])) _
            refine XS.ifNo X65.here hx rfl (hb hby at_189) rfl ((if0 _ _).trans (tlt (by rw [own_l2 hgt]; decide)).2.2.2) ?_
            show Steps p.tables e below (T65.setTop (mkF m 192 #[.val (.long p1), .second, .val (.long p2), .second, .val (.long p3), .second, .val (.int p4), .val (.ref b1), .val (.ref b10), .val (.int md), .val (.ref b1), .val (.int sv), .val (.int (own_cmp p1 p3))] [])) _
            refine XS.iload X65.here hx rfl (hb hby at_192) rfl ?_
            show Steps p.tables e below (T65.setTop (mkF m 194 #[.val (.long p1), .second, .val (.long p2), .second, .val (.long p3), .second, .val (.int p4), .val (.ref b1), .val (.ref b10), .val (.int md), .val (.ref b1), .val (.int sv), .val (.int (own_cmp p1 p3))] [(.int (own_cmp p1 p3))])) _
            refine XS.ifNo X65.here hx rfl (hb hby at_194) rfl ((if0 _ _).trans (tlt (by rw [own_c2 hgt]; decide)).2.2.2) ?_
            show Steps p.tables e below (T65.setTop (mkF m 197 #[.val (.long p1), .second, .val (.long p2), .second, .val (.long p3), .second, .val (.int p4), .val (.ref b1), .val (.ref b10), .val (.int md), .val (.ref b1), .val (.int sv), .val (.int (own_cmp p1 p3))] [])) _
            refine XS.iconst X65.here hx rfl (hb hby at_197) ?_
            show Steps p.tables e below (T65.setTop (mkF m 198 #[.val (.long p1), .second, .val (.long p2), .second, .val (.long p3), .second, .val (.int p4), .val (.ref b1), .val (.ref b10), .val (.int md), .val (.ref b1), .val (.int sv), .val (.int (own_cmp p1 p3))] [(.int (1 : Int32))])) _
            refine XS.goto X65.here hx rfl (pc0 := 198) (pc' := 202) rfl (hb hby at_198) (by decide) (by decide) ?_
            exact k)
        obtain ⟨fs, hr, hrun, hended, hWW⟩ := X65.leaveW hSi (by rw [e65]; exact kz) (v := some (.int (1 : Int32))) (fun h => by rw [Bd.returns] at h; cases h)
        refine ⟨_, _, J71 _ ?_, hrun, hended, _, _, rfl, ?_, hWW.1, hWW.2.1, hWW.2.2.1, hWW.2.2.2.mono (by decide) (by decide)⟩
        · show Steps p.tables e below (T65.setTop (mkF m 202 #[.val (.long p1), .second, .val (.long p2), .second, .val (.long p3), .second, .val (.int p4), .val (.ref b1), .val (.ref b10), .val (.int md), .val (.ref b1), .val (.int sv), .val (.int (own_cmp p1 p3))] [(.int (1 : Int32))])) _
          exact retN X65 hx (t := .boolean) Bd.returns (by simp) (hb hby at_202) hr
        · show Q0 Z p1 p2 p3 p4 h0 n0 _ T65.heap _
          rw [e65]
          exact ⟨rfl, N66⟩
      ·
        have J72 : ∀ t, Steps p.tables e below (T65.setTop (mkF m 213 #[.val (.long p1), .second, .val (.long p2), .second, .val (.long p3), .second, .val (.int p4), .val (.ref b1), .val (.ref b10), .val (.int md), .val (.ref b1), .val (.int sv), .val (.int (own_cmp p1 p3))] [(.int (1 : Int32))])) t → Steps p.tables e below (s₁.setTop (entryFrame m #[(.long p1), (.long p2), (.long p3), (.int p4)] maxLocals)) t := fun t k => J70 t (by
            show Steps p.tables e below (T65.setTop (mkF m 189 #[.val (.long p1), .second, .val (.long p2), .second, .val (.long p3), .second, .val (.int p4), .val (.ref b1), .val (.ref b10), .val (.int md), .val (.ref b1), .val (.int sv), .val (.int (own_cmp p1 p3))] [(.int (lcmpW p1 p3))])) _
            refine XS.ifYes X65.here hx rfl (pc0 := 189) (pc' := 203) rfl (hb hby at_189) rfl ((if0 _ _).trans (flt (own_n2 hgt)).2.2.2) (by decide) (by decide) ?_
            show Steps p.tables e below (T65.setTop (mkF m 203 #[.val (.long p1), .second, .val (.long p2), .second, .val (.long p3), .second, .val (.int p4), .val (.ref b1), .val (.ref b10), .val (.int md), .val (.ref b1), .val (.int sv), .val (.int (own_cmp p1 p3))] [])) _
            refine XS.iload X65.here hx rfl (hb hby at_203) rfl ?_
            show Steps p.tables e below (T65.setTop (mkF m 205 #[.val (.long p1), .second, .val (.long p2), .second, .val (.long p3), .second, .val (.int p4), .val (.ref b1), .val (.ref b10), .val (.int md), .val (.ref b1), .val (.int sv), .val (.int (own_cmp p1 p3))] [(.int (own_cmp p1 p3))])) _
            refine XS.ifNo X65.here hx rfl (hb hby at_205) rfl ((if0 _ _).trans (teq (own_c3 hlt hgt)).2) ?_
            show Steps p.tables e below (T65.setTop (mkF m 208 #[.val (.long p1), .second, .val (.long p2), .second, .val (.long p3), .second, .val (.int p4), .val (.ref b1), .val (.ref b10), .val (.int md), .val (.ref b1), .val (.int sv), .val (.int (own_cmp p1 p3))] [])) _
            refine XS.iconst X65.here hx rfl (hb hby at_208) ?_
            show Steps p.tables e below (T65.setTop (mkF m 209 #[.val (.long p1), .second, .val (.long p2), .second, .val (.long p3), .second, .val (.int p4), .val (.ref b1), .val (.ref b10), .val (.int md), .val (.ref b1), .val (.int sv), .val (.int (own_cmp p1 p3))] [(.int (1 : Int32))])) _
            refine XS.goto X65.here hx rfl (pc0 := 209) (pc' := 213) rfl (hb hby at_209) (by decide) (by decide) ?_
            exact k)
        obtain ⟨fs, hr, hrun, hended, hWW⟩ := X65.leaveW hSi (by rw [e65]; exact kz) (v := some (.int (1 : Int32))) (fun h => by rw [Bd.returns] at h; cases h)
        refine ⟨_, _, J72 _ ?_, hrun, hended, _, _, rfl, ?_, hWW.1, hWW.2.1, hWW.2.2.1, hWW.2.2.2.mono (by decide) (by decide)⟩
        · show Steps p.tables e below (T65.setTop (mkF m 213 #[.val (.long p1), .second, .val (.long p2), .second, .val (.long p3), .second, .val (.int p4), .val (.ref b1), .val (.ref b10), .val (.int md), .val (.ref b1), .val (.int sv), .val (.int (own_cmp p1 p3))] [(.int (1 : Int32))])) _
          exact retN X65 hx (t := .boolean) Bd.returns (by simp) (hb hby at_213) hr
        · show Q0 Z p1 p2 p3 p4 h0 n0 _ T65.heap _
          rw [e65]
          exact ⟨rfl, N66⟩
  ·
    have J73 : ∀ t, Steps p.tables e below (T16.setTop (mkF m 33 #[.val (.long p1), .second, .val (.long p2), .second, .val (.long p3), .second, .val (.int p4), .val (.ref b1), .val (.ref b10), .val (.int md), .unset, .unset, .unset] [(.int (3 : Int32)), (.int md)])) t → Steps p.tables e below (s₁.setTop (entryFrame m #[(.long p1), (.long p2), (.long p3), (.int p4)] maxLocals)) t := fun t k => J21 t (by
        show Steps p.tables e below (T16.setTop (mkF m 27 #[.val (.long p1), .second, .val (.long p2), .second, .val (.long p3), .second, .val (.int p4), .val (.ref b1), .val (.ref b10), .val (.int md), .unset, .unset, .unset] [(.int (1 : Int32)), (.int md)])) _
        refine XS.icmpNo X16.here hx rfl (hb hby at_27) rfl (feq h1).1 ?_
        show Steps p.tables e below (T16.setTop (mkF m 30 #[.val (.long p1), .second, .val (.long p2), .second, .val (.long p3), .second, .val (.int p4), .val (.ref b1), .val (.ref b10), .val (.int md), .unset, .unset, .unset] [])) _
        refine XS.iload X16.here hx rfl (hb hby at_30) rfl ?_
        show Steps p.tables e below (T16.setTop (mkF m 32 #[.val (.long p1), .second, .val (.long p2), .second, .val (.long p3), .second, .val (.int p4), .val (.ref b1), .val (.ref b10), .val (.int md), .unset, .unset, .unset] [(.int md)])) _
        refine XS.iconst X16.here hx rfl (hb hby at_32) ?_
        exact k)
    by_cases h3 : md = (3 : Int32)
    ·
      have J74 : ∀ t, Steps p.tables e below (T16.setTop (mkF m 39 #[.val (.long p1), .second, .val (.long p2), .second, .val (.long p3), .second, .val (.int p4), .val (.ref b1), .val (.ref b10), .val (.int md), .unset, .unset, .unset] [(.long p2), (.ref b1)])) t → Steps p.tables e below (s₁.setTop (entryFrame m #[(.long p1), (.long p2), (.long p3), (.int p4)] maxLocals)) t := fun t k => J73 t (by
          show Steps p.tables e below (T16.setTop (mkF m 33 #[.val (.long p1), .second, .val (.long p2), .second, .val (.long p3), .second, .val (.int p4), .val (.ref b1), .val (.ref b10), .val (.int md), .unset, .unset, .unset] [(.int (3 : Int32)), (.int md)])) _
          refine XS.icmpNo X16.here hx rfl (hb hby at_33) rfl (teq h3).2 ?_
          show Steps p.tables e below (T16.setTop (mkF m 36 #[.val (.long p1), .second, .val (.long p2), .second, .val (.long p3), .second, .val (.int p4), .val (.ref b1), .val (.ref b10), .val (.int md), .unset, .unset, .unset] [])) _
          refine XS.aload X16.here hx rfl (hb hby at_36) rfl rfl ?_
          show Steps p.tables e below (T16.setTop (mkF m 38 #[.val (.long p1), .second, .val (.long p2), .second, .val (.long p3), .second, .val (.int p4), .val (.ref b1), .val (.ref b10), .val (.int md), .unset, .unset, .unset] [(.ref b1)])) _
          refine XS.lloadN X16.here hx rfl (hb hby at_38) rfl ?_
          exact k)
      have f75 := A1.ext E10
      have f76 := F1_cents.ext E10
      have f77 := F1_wide.ext E10
      obtain ⟨cq78, kq78, q78a, q78b, q78c⟩ := isOf hZ e16 f75
      obtain ⟨_, _, ⟨T78, L78, k78, n78⟩, -, X78, ⟨Lc78, hQ78, l78, y78, z78⟩, st78⟩ := X16.virtualBack hx (y := (⟨"com/example/tranche/tranche/model/Amount", "set", "(J)Lcom/example/tranche/tranche/model/Amount;"⟩ : MethodName)) (z := (⟨"com/example/tranche/tranche/model/Amount", "set", "(J)Lcom/example/tranche/tranche/model/Amount;"⟩ : MethodName)) hown (mvT hZ (hw _ (List.mem_of_getElem? (i := 10) rfl))) (mvT hZ (hw _ (List.mem_of_getElem? (i := 11) rfl))) (notFace_of_selects (args := #[]) (mvT hZ (hw _ (List.mem_of_getElem? (i := 13) rfl)))) (mvT hZ (hw _ (List.mem_of_getElem? (i := 13) rfl))) (mvT hZ (hw _ (List.mem_of_getElem? (i := 12) rfl))) (by decide) (backOf (W := 0) (rm3 l Z a0 hw [] b1 p2 (.long (0 : Int64)) .null h10 n0 Z14 f75 ge3 f76 f77) hZ (hw _ (List.mem_of_getElem? (i := 14) rfl)) (hw _ (List.mem_of_getElem? (i := 2) rfl)) (by decide) (by decide)) q78a q78c (g := (mkF m 39 #[.val (.long p1), .second, .val (.long p2), .second, .val (.long p3), .second, .val (.int p4), .val (.ref b1), .val (.ref b10), .val (.int md), .unset, .unset, .unset] [(.long p2), (.ref b1)])) rfl (by rw [hml]; rfl) (Steps.refl _) (argsL := [(.long p2)]) (rest := []) (lenOf pd_23 rfl) rfl (by show 2 * 0 + _ ≤ _; exact Nat.le_of_eq rfl) (hb hby at_39) (fun _ _ => ⟨rfl, e16, (by decide : 2 + 0 ≤ _), (by decide : 4 + 0 ≤ _)⟩)
      dsimp only [Pt.U, Pt.locs, Pt.cells, Pt.slots] at X78 l78 y78 z78 st78 hQ78
      subst y78 z78
      obtain ⟨rfl, Nq78, K78, p78_1, p78_2, p78_3⟩ := hQ78
      have N79 : Fr n0 L78 := by rw [l78]; exact Fr.app N17 Nq78
      have J80 : ∀ t, Steps p.tables e below (T78.setTop (mkF m 42 #[.val (.long p1), .second, .val (.long p2), .second, .val (.long p3), .second, .val (.int p4), .val (.ref b1), .val (.ref b10), .val (.int md), .unset, .unset, .unset] [(.ref b1)])) t → Steps p.tables e below (s₁.setTop (entryFrame m #[(.long p1), (.long p2), (.long p3), (.int p4)] maxLocals)) t := fun t k => J74 t (st78.trans k)
      have Z81 : n0 ≤ T78.heap.size := Nat.le_trans Z14 K78.1
      have kz := Nat.le_trans kz K78.1
      have J82 : ∀ t, Steps p.tables e below (T78.setTop (mkF m 79 #[.val (.long p1), .second, .val (.long p2), .second, .val (.long p3), .second, .val (.int p4), .val (.ref b1), .val (.ref b10), .val (.int md), .unset, .unset, .unset] [(.long p1), (.ref b1)])) t → Steps p.tables e below (s₁.setTop (entryFrame m #[(.long p1), (.long p2), (.long p3), (.int p4)] maxLocals)) t := fun t k => J80 t (by
          show Steps p.tables e below (T78.setTop (mkF m 42 #[.val (.long p1), .second, .val (.long p2), .second, .val (.long p3), .second, .val (.int p4), .val (.ref b1), .val (.ref b10), .val (.int md), .unset, .unset, .unset] [(.ref b1)])) _
          refine XS.pop X78.here hx rfl (hb hby at_42) rfl rfl ?_
          show Steps p.tables e below (T78.setTop (mkF m 43 #[.val (.long p1), .second, .val (.long p2), .second, .val (.long p3), .second, .val (.int p4), .val (.ref b1), .val (.ref b10), .val (.int md), .unset, .unset, .unset] [])) _
          refine XS.goto X78.here hx rfl (pc0 := 43) (pc' := 76) rfl (hb hby at_43) (by decide) (by decide) ?_
          show Steps p.tables e below (T78.setTop (mkF m 76 #[.val (.long p1), .second, .val (.long p2), .second, .val (.long p3), .second, .val (.int p4), .val (.ref b1), .val (.ref b10), .val (.int md), .unset, .unset, .unset] [])) _
          refine XS.aload X78.here hx rfl (hb hby at_76) rfl rfl ?_
          show Steps p.tables e below (T78.setTop (mkF m 78 #[.val (.long p1), .second, .val (.long p2), .second, .val (.long p3), .second, .val (.int p4), .val (.ref b1), .val (.ref b10), .val (.int md), .unset, .unset, .unset] [(.ref b1)])) _
          refine XS.lloadN X78.here hx rfl (hb hby at_78) rfl ?_
          exact k)
      obtain ⟨cq83, kq83, q83a, q83b, q83c⟩ := isOf hZ rfl p78_1
      obtain ⟨_, _, ⟨T83, L83, k83, n83⟩, -, X83, ⟨Lc83, hQ83, l83, y83, z83⟩, st83⟩ := X78.virtualBack hx (y := (⟨"com/example/tranche/tranche/model/Amount", "set", "(J)Lcom/example/tranche/tranche/model/Amount;"⟩ : MethodName)) (z := (⟨"com/example/tranche/tranche/model/Amount", "set", "(J)Lcom/example/tranche/tranche/model/Amount;"⟩ : MethodName)) hown (mvT hZ (hw _ (List.mem_of_getElem? (i := 10) rfl))) (mvT hZ (hw _ (List.mem_of_getElem? (i := 11) rfl))) (notFace_of_selects (args := #[]) (mvT hZ (hw _ (List.mem_of_getElem? (i := 13) rfl)))) (mvT hZ (hw _ (List.mem_of_getElem? (i := 13) rfl))) (mvT hZ (hw _ (List.mem_of_getElem? (i := 12) rfl))) (by decide) (backOf (W := 0) (rm3 l Z a0 hw [] b1 p1 (.long p2) .null T78.heap n0 Z81 p78_1 ge3 p78_2 p78_3) hZ (hw _ (List.mem_of_getElem? (i := 14) rfl)) (hw _ (List.mem_of_getElem? (i := 2) rfl)) (by decide) (by decide)) q83a q83c (g := (mkF m 79 #[.val (.long p1), .second, .val (.long p2), .second, .val (.long p3), .second, .val (.int p4), .val (.ref b1), .val (.ref b10), .val (.int md), .unset, .unset, .unset] [(.long p1), (.ref b1)])) rfl (by rw [hml]; rfl) (Steps.refl _) (argsL := [(.long p1)]) (rest := []) (lenOf pd_23 rfl) rfl (by show 2 * 0 + _ ≤ _; exact Nat.le_of_eq rfl) (hb hby at_79) (fun _ _ => ⟨rfl, rfl, (by decide : 2 + 0 ≤ _), (by decide : 4 + 0 ≤ _)⟩)
      dsimp only [Pt.U, Pt.locs, Pt.cells, Pt.slots] at X83 l83 y83 z83 st83 hQ83
      subst y83 z83
      obtain ⟨rfl, Nq83, K83, p83_1, p83_2, p83_3⟩ := hQ83
      have N84 : Fr n0 L83 := by rw [l83]; exact Fr.app N79 Nq83
      have J85 : ∀ t, Steps p.tables e below (T83.setTop (mkF m 82 #[.val (.long p1), .second, .val (.long p2), .second, .val (.long p3), .second, .val (.int p4), .val (.ref b1), .val (.ref b10), .val (.int md), .unset, .unset, .unset] [(.ref b1)])) t → Steps p.tables e below (s₁.setTop (entryFrame m #[(.long p1), (.long p2), (.long p3), (.int p4)] maxLocals)) t := fun t k => J82 t (st83.trans k)
      have Z86 : n0 ≤ T83.heap.size := Nat.le_trans Z81 K83.1
      have kz := Nat.le_trans kz K83.1
      have J87 : ∀ t, Steps p.tables e below (T83.setTop (mkF m 88 #[.val (.long p1), .second, .val (.long p2), .second, .val (.long p3), .second, .val (.int p4), .val (.ref b1), .val (.ref b10), .val (.int md), .val (.ref b1), .unset, .unset] [(.long p3), (.ref b10)])) t → Steps p.tables e below (s₁.setTop (entryFrame m #[(.long p1), (.long p2), (.long p3), (.int p4)] maxLocals)) t := fun t k => J85 t (by
          show Steps p.tables e below (T83.setTop (mkF m 82 #[.val (.long p1), .second, .val (.long p2), .second, .val (.long p3), .second, .val (.int p4), .val (.ref b1), .val (.ref b10), .val (.int md), .unset, .unset, .unset] [(.ref b1)])) _
          refine XS.astore X83.here hx rfl (hb hby at_82) rfl rfl (l' := #[.val (.long p1), .second, .val (.long p2), .second, .val (.long p3), .second, .val (.int p4), .val (.ref b1), .val (.ref b10), .val (.int md), .val (.ref b1), .unset, .unset]) rfl ?_
          show Steps p.tables e below (T83.setTop (mkF m 84 #[.val (.long p1), .second, .val (.long p2), .second, .val (.long p3), .second, .val (.int p4), .val (.ref b1), .val (.ref b10), .val (.int md), .val (.ref b1), .unset, .unset] [])) _
          refine XS.aload X83.here hx rfl (hb hby at_84) rfl rfl ?_
          show Steps p.tables e below (T83.setTop (mkF m 86 #[.val (.long p1), .second, .val (.long p2), .second, .val (.long p3), .second, .val (.int p4), .val (.ref b1), .val (.ref b10), .val (.int md), .val (.ref b1), .unset, .unset] [(.ref b10)])) _
          refine XS.lload X83.here hx rfl (hb hby at_86) rfl ?_
          exact k)
      have f88 := A10.keep K78
      have f89 := f88.keep K83
      have f90 := F10_cents.keep K78 (ninS (Ne.symm ne12) nin0)
      have f91 := f90.keep K83 (ninS (Ne.symm ne12) nin0)
      have f92 := F10_wide.keep K78 (ninS (Ne.symm ne12) nin0)
      have f93 := f92.keep K83 (ninS (Ne.symm ne12) nin0)
      obtain ⟨cq94, kq94, q94a, q94b, q94c⟩ := isOf hZ rfl f89
      obtain ⟨_, _, ⟨T94, L94, k94, n94⟩, -, X94, ⟨Lc94, hQ94, l94, y94, z94⟩, st94⟩ := X83.virtualBack hx (y := (⟨"com/example/tranche/tranche/model/Amount", "set", "(J)Lcom/example/tranche/tranche/model/Amount;"⟩ : MethodName)) (z := (⟨"com/example/tranche/tranche/model/Amount", "set", "(J)Lcom/example/tranche/tranche/model/Amount;"⟩ : MethodName)) hown (mvT hZ (hw _ (List.mem_of_getElem? (i := 10) rfl))) (mvT hZ (hw _ (List.mem_of_getElem? (i := 11) rfl))) (notFace_of_selects (args := #[]) (mvT hZ (hw _ (List.mem_of_getElem? (i := 13) rfl)))) (mvT hZ (hw _ (List.mem_of_getElem? (i := 13) rfl))) (mvT hZ (hw _ (List.mem_of_getElem? (i := 12) rfl))) (by decide) (backOf (W := 0) (rm3 l Z a0 hw [] b10 p3 (.long (0 : Int64)) .null T83.heap n0 Z86 f89 ge13 f91 f93) hZ (hw _ (List.mem_of_getElem? (i := 14) rfl)) (hw _ (List.mem_of_getElem? (i := 2) rfl)) (by decide) (by decide)) q94a q94c (g := (mkF m 88 #[.val (.long p1), .second, .val (.long p2), .second, .val (.long p3), .second, .val (.int p4), .val (.ref b1), .val (.ref b10), .val (.int md), .val (.ref b1), .unset, .unset] [(.long p3), (.ref b10)])) rfl (by rw [hml]; rfl) (Steps.refl _) (argsL := [(.long p3)]) (rest := []) (lenOf pd_23 rfl) rfl (by show 2 * 0 + _ ≤ _; exact Nat.le_of_eq rfl) (hb hby at_88) (fun _ _ => ⟨rfl, rfl, (by decide : 2 + 0 ≤ _), (by decide : 4 + 0 ≤ _)⟩)
      dsimp only [Pt.U, Pt.locs, Pt.cells, Pt.slots] at X94 l94 y94 z94 st94 hQ94
      subst y94 z94
      obtain ⟨rfl, Nq94, K94, p94_1, p94_2, p94_3⟩ := hQ94
      have N95 : Fr n0 L94 := by rw [l94]; exact Fr.app N84 Nq94
      have J96 : ∀ t, Steps p.tables e below (T94.setTop (mkF m 91 #[.val (.long p1), .second, .val (.long p2), .second, .val (.long p3), .second, .val (.int p4), .val (.ref b1), .val (.ref b10), .val (.int md), .val (.ref b1), .unset, .unset] [(.ref b10)])) t → Steps p.tables e below (s₁.setTop (entryFrame m #[(.long p1), (.long p2), (.long p3), (.int p4)] maxLocals)) t := fun t k => J87 t (st94.trans k)
      have Z97 : n0 ≤ T94.heap.size := Nat.le_trans Z86 K94.1
      have kz := Nat.le_trans kz K94.1
      have J98 : ∀ t, Steps p.tables e below (T94.setTop (mkF m 103 #[.val (.long p1), .second, .val (.long p2), .second, .val (.long p3), .second, .val (.int p4), .val (.ref b1), .val (.ref b10), .val (.int md), .val (.ref b1), .unset, .unset] [(.ref b1)])) t → Steps p.tables e below (s₁.setTop (entryFrame m #[(.long p1), (.long p2), (.long p3), (.int p4)] maxLocals)) t := fun t k => J96 t (by
          show Steps p.tables e below (T94.setTop (mkF m 91 #[.val (.long p1), .second, .val (.long p2), .second, .val (.long p3), .second, .val (.int p4), .val (.ref b1), .val (.ref b10), .val (.int md), .val (.ref b1), .unset, .unset] [(.ref b10)])) _
          refine XS.pop X94.here hx rfl (hb hby at_91) rfl rfl ?_
          show Steps p.tables e below (T94.setTop (mkF m 92 #[.val (.long p1), .second, .val (.long p2), .second, .val (.long p3), .second, .val (.int p4), .val (.ref b1), .val (.ref b10), .val (.int md), .val (.ref b1), .unset, .unset] [])) _
          refine XS.aload X94.here hx rfl (hb hby at_92) rfl rfl ?_
          show Steps p.tables e below (T94.setTop (mkF m 94 #[.val (.long p1), .second, .val (.long p2), .second, .val (.long p3), .second, .val (.int p4), .val (.ref b1), .val (.ref b10), .val (.int md), .val (.ref b1), .unset, .unset] [(.ref b1)])) _
          refine XS.aload X94.here hx rfl (hb hby at_94) rfl rfl ?_
          show Steps p.tables e below (T94.setTop (mkF m 96 #[.val (.long p1), .second, .val (.long p2), .second, .val (.long p3), .second, .val (.int p4), .val (.ref b1), .val (.ref b10), .val (.int md), .val (.ref b1), .unset, .unset] [(.ref b1), (.ref b1)])) _
          refine Jvm.RoadKit.acmp (g := (mkF m 96 #[.val (.long p1), .second, .val (.long p2), .second, .val (.long p3), .second, .val (.int p4), .val (.ref b1), .val (.ref b10), .val (.int md), .val (.ref b1), .unset, .unset] [(.ref b1), (.ref b1)])) X94 hx rfl rfl rfl (pc0 := 96) (pc' := 101) (same := true) rfl (hb hby at_96) rfl (decide_eq_true rfl) (by decide) (by decide) ?_
          show Steps p.tables e below (T94.setTop (mkF m 101 #[.val (.long p1), .second, .val (.long p2), .second, .val (.long p3), .second, .val (.int p4), .val (.ref b1), .val (.ref b10), .val (.int md), .val (.ref b1), .unset, .unset] [])) _
          refine XS.aload X94.here hx rfl (hb hby at_101) rfl rfl ?_
          exact k)
      have f99 := p83_1.keep K94
      have f100 := p83_3.keep K94 (ninS ne12 nin0)
      obtain ⟨cq101, kq101, q101a, q101b, q101c⟩ := isOf hZ rfl f99
      obtain ⟨_, _, ⟨T101, L101, k101, n101⟩, -, X101, ⟨Lc101, hQ101, l101, y101, z101⟩, st101⟩ := X94.virtualBack hx (y := (⟨"com/example/tranche/tranche/model/Amount", "inCents", "()Z"⟩ : MethodName)) (z := (⟨"com/example/tranche/tranche/model/Amount", "inCents", "()Z"⟩ : MethodName)) hown (mvT hZ (hw _ (List.mem_of_getElem? (i := 231) rfl))) (mvT hZ (hw _ (List.mem_of_getElem? (i := 232) rfl))) (notFace_of_selects (args := #[]) (mvT hZ (hw _ (List.mem_of_getElem? (i := 234) rfl)))) (mvT hZ (hw _ (List.mem_of_getElem? (i := 234) rfl))) (mvT hZ (hw _ (List.mem_of_getElem? (i := 233) rfl))) (by decide) (backOf (W := 0) (rm37 l Z a0 hw [] b1 T94.heap n0 Z97 f100) hZ (hw _ (List.mem_of_getElem? (i := 235) rfl)) (hw _ (List.mem_of_getElem? (i := 2) rfl)) (by decide) (by decide)) q101a q101c (g := (mkF m 103 #[.val (.long p1), .second, .val (.long p2), .second, .val (.long p3), .second, .val (.int p4), .val (.ref b1), .val (.ref b10), .val (.int md), .val (.ref b1), .unset, .unset] [(.ref b1)])) rfl (by rw [hml]; rfl) (Steps.refl _) (argsL := []) (rest := []) (lenOf pd_24 rfl) rfl (by show 2 * 0 + _ ≤ _; exact Nat.le_of_eq rfl) (hb hby at_103) (fun _ _ => ⟨rfl, rfl, (by decide : 2 + 0 ≤ _), (by decide : 4 + 0 ≤ _)⟩)
      dsimp only [Pt.U, Pt.locs, Pt.cells, Pt.slots] at X101 l101 y101 z101 st101 hQ101
      subst y101 z101
      obtain ⟨rfl, Nq101, e101⟩ := hQ101
      have N102 : Fr n0 L101 := by rw [l101]; exact Fr.app N95 Nq101
      have J103 : ∀ t, Steps p.tables e below (T101.setTop (mkF m 106 #[.val (.long p1), .second, .val (.long p2), .second, .val (.long p3), .second, .val (.int p4), .val (.ref b1), .val (.ref b10), .val (.int md), .val (.ref b1), .unset, .unset] [(.int (1 : Int32))])) t → Steps p.tables e below (s₁.setTop (entryFrame m #[(.long p1), (.long p2), (.long p3), (.int p4)] maxLocals)) t := fun t k => J98 t (st101.trans k)
      have J104 : ∀ t, Steps p.tables e below (T101.setTop (mkF m 113 #[.val (.long p1), .second, .val (.long p2), .second, .val (.long p3), .second, .val (.int p4), .val (.ref b1), .val (.ref b10), .val (.int md), .val (.ref b1), .unset, .unset] [(.ref b1)])) t → Steps p.tables e below (s₁.setTop (entryFrame m #[(.long p1), (.long p2), (.long p3), (.int p4)] maxLocals)) t := fun t k => J103 t (by
          show Steps p.tables e below (T101.setTop (mkF m 106 #[.val (.long p1), .second, .val (.long p2), .second, .val (.long p3), .second, .val (.int p4), .val (.ref b1), .val (.ref b10), .val (.int md), .val (.ref b1), .unset, .unset] [(.int (1 : Int32))])) _
          refine XS.ifYes X101.here hx rfl (pc0 := 106) (pc' := 111) rfl (hb hby at_106) rfl ((if0 _ _).trans (feq (by decide)).2) (by decide) (by decide) ?_
          show Steps p.tables e below (T101.setTop (mkF m 111 #[.val (.long p1), .second, .val (.long p2), .second, .val (.long p3), .second, .val (.int p4), .val (.ref b1), .val (.ref b10), .val (.int md), .val (.ref b1), .unset, .unset] [])) _
          refine XS.aload X101.here hx rfl (hb hby at_111) rfl rfl ?_
          exact k)
      have f105 := p83_2.keep K94 (ninS ne12 nin0)
      obtain ⟨cq106, kq106, q106a, q106b, q106c⟩ := isOf hZ e101 f99
      obtain ⟨_, _, ⟨T106, L106, k106, n106⟩, -, X106, ⟨Lc106, hQ106, l106, y106, z106⟩, st106⟩ := X101.virtualBack hx (y := (⟨"com/example/tranche/tranche/model/Amount", "cents", "()J"⟩ : MethodName)) (z := (⟨"com/example/tranche/tranche/model/Amount", "cents", "()J"⟩ : MethodName)) hown (mvT hZ (hw _ (List.mem_of_getElem? (i := 236) rfl))) (mvT hZ (hw _ (List.mem_of_getElem? (i := 237) rfl))) (notFace_of_selects (args := #[]) (mvT hZ (hw _ (List.mem_of_getElem? (i := 239) rfl)))) (mvT hZ (hw _ (List.mem_of_getElem? (i := 239) rfl))) (mvT hZ (hw _ (List.mem_of_getElem? (i := 238) rfl))) (by decide) (backOf (W := 0) (rm38 l Z a0 hw [] b1 p1 T94.heap n0 Z97 f105 f100) hZ (hw _ (List.mem_of_getElem? (i := 240) rfl)) (hw _ (List.mem_of_getElem? (i := 2) rfl)) (by decide) (by decide)) q106a q106c (g := (mkF m 113 #[.val (.long p1), .second, .val (.long p2), .second, .val (.long p3), .second, .val (.int p4), .val (.ref b1), .val (.ref b10), .val (.int md), .val (.ref b1), .unset, .unset] [(.ref b1)])) rfl (by rw [hml]; rfl) (Steps.refl _) (argsL := []) (rest := []) (lenOf pd_25 rfl) rfl (by show 2 * 0 + _ ≤ _; exact Nat.le_of_eq rfl) (hb hby at_113) (fun _ _ => ⟨rfl, e101, (by decide : 2 + 0 ≤ _), (by decide : 4 + 0 ≤ _)⟩)
      dsimp only [Pt.U, Pt.locs, Pt.cells, Pt.slots] at X106 l106 y106 z106 st106 hQ106
      subst y106 z106
      obtain ⟨rfl, Nq106, e106⟩ := hQ106
      have N107 : Fr n0 L106 := by rw [l106]; exact Fr.app N102 Nq106
      have J108 : ∀ t, Steps p.tables e below (T106.setTop (mkF m 116 #[.val (.long p1), .second, .val (.long p2), .second, .val (.long p3), .second, .val (.int p4), .val (.ref b1), .val (.ref b10), .val (.int md), .val (.ref b1), .unset, .unset] [(.long p1)])) t → Steps p.tables e below (s₁.setTop (entryFrame m #[(.long p1), (.long p2), (.long p3), (.int p4)] maxLocals)) t := fun t k => J104 t (st106.trans k)
      have J109 : ∀ t, Steps p.tables e below (T106.setTop (mkF m 123 #[.val (.long p1), .second, .val (.long p2), .second, .val (.long p3), .second, .val (.int p4), .val (.ref b1), .val (.ref b10), .val (.int md), .val (.ref b1), .unset, .unset] [])) t → Steps p.tables e below (s₁.setTop (entryFrame m #[(.long p1), (.long p2), (.long p3), (.int p4)] maxLocals)) t := fun t k => J108 t (by
          show Steps p.tables e below (T106.setTop (mkF m 116 #[.val (.long p1), .second, .val (.long p2), .second, .val (.long p3), .second, .val (.int p4), .val (.ref b1), .val (.ref b10), .val (.int md), .val (.ref b1), .unset, .unset] [(.long p1)])) _
          refine XS.lloadN X106.here hx rfl (hb hby at_116) rfl ?_
          show Steps p.tables e below (T106.setTop (mkF m 117 #[.val (.long p1), .second, .val (.long p2), .second, .val (.long p3), .second, .val (.int p4), .val (.ref b1), .val (.ref b10), .val (.int md), .val (.ref b1), .unset, .unset] [(.long p1), (.long p1)])) _
          refine XS.lcmp X106.here hx rfl (hb hby at_117) rfl ?_
          show Steps p.tables e below (T106.setTop (mkF m 118 #[.val (.long p1), .second, .val (.long p2), .second, .val (.long p3), .second, .val (.int p4), .val (.ref b1), .val (.ref b10), .val (.int md), .val (.ref b1), .unset, .unset] [(.int (lcmpW p1 p1))])) _
          refine XS.ifYes X106.here hx rfl (pc0 := 118) (pc' := 123) rfl (hb hby at_118) rfl ((if0 _ _).trans (teq (own_l3 p1)).1) (by decide) (by decide) ?_
          exact k)
      obtain ⟨sv, hsv⟩ : ∃ z : Int32, z = (if (0 : Int32) < (lcmpW p1 (0 : Int64)) then (1 : Int32) else (if (lcmpW p1 (0 : Int64)) < (0 : Int32) then (-1 : Int32) else (0 : Int32))) := ⟨_, rfl⟩
      have ps110 : ∀ t, Steps p.tables e below (T106.setTop (mkF m 144 #[.val (.long p1), .second, .val (.long p2), .second, .val (.long p3), .second, .val (.int p4), .val (.ref b1), .val (.ref b10), .val (.int md), .val (.ref b1), .unset, .unset] [(.int sv)])) t → Steps p.tables e below (T106.setTop (mkF m 123 #[.val (.long p1), .second, .val (.long p2), .second, .val (.long p3), .second, .val (.int p4), .val (.ref b1), .val (.ref b10), .val (.int md), .val (.ref b1), .unset, .unset] [])) t := by
        intro t k
        show Steps p.tables e below (T106.setTop (mkF m 123 #[.val (.long p1), .second, .val (.long p2), .second, .val (.long p3), .second, .val (.int p4), .val (.ref b1), .val (.ref b10), .val (.int md), .val (.ref b1), .unset, .unset] [])) _
        refine XS.lloadN X106.here hx rfl (hb hby at_123) rfl ?_
        show Steps p.tables e below (T106.setTop (mkF m 124 #[.val (.long p1), .second, .val (.long p2), .second, .val (.long p3), .second, .val (.int p4), .val (.ref b1), .val (.ref b10), .val (.int md), .val (.ref b1), .unset, .unset] [(.long p1)])) _
        refine XS.lconst X106.here hx rfl (hb hby at_124) ?_
        show Steps p.tables e below (T106.setTop (mkF m 125 #[.val (.long p1), .second, .val (.long p2), .second, .val (.long p3), .second, .val (.int p4), .val (.ref b1), .val (.ref b10), .val (.int md), .val (.ref b1), .unset, .unset] [(.long (0 : Int64)), (.long p1)])) _
        refine XS.lcmp X106.here hx rfl (hb hby at_125) rfl ?_
        by_cases hm126_0 : (0 : Int32) < (lcmpW p1 (0 : Int64))
        ·
          show Steps p.tables e below (T106.setTop (mkF m 126 #[.val (.long p1), .second, .val (.long p2), .second, .val (.long p3), .second, .val (.int p4), .val (.ref b1), .val (.ref b10), .val (.int md), .val (.ref b1), .unset, .unset] [(.int (lcmpW p1 (0 : Int64)))])) _
          refine XS.ifNo X106.here hx rfl (hb hby at_126) rfl ((if0 _ _).trans (tlt hm126_0).2.2.2) ?_
          show Steps p.tables e below (T106.setTop (mkF m 129 #[.val (.long p1), .second, .val (.long p2), .second, .val (.long p3), .second, .val (.int p4), .val (.ref b1), .val (.ref b10), .val (.int md), .val (.ref b1), .unset, .unset] [])) _
          refine XS.iconst X106.here hx rfl (hb hby at_129) ?_
          show Steps p.tables e below (T106.setTop (mkF m 130 #[.val (.long p1), .second, .val (.long p2), .second, .val (.long p3), .second, .val (.int p4), .val (.ref b1), .val (.ref b10), .val (.int md), .val (.ref b1), .unset, .unset] [(.int (1 : Int32))])) _
          refine XS.goto X106.here hx rfl (pc0 := 130) (pc' := 144) rfl (hb hby at_130) (by decide) (by decide) ?_
          have qsv : sv = (1 : Int32) := by rw [hsv]; first | (simp only [hm126_0, if_true, if_false, reduceIte]; done) | simp [hm126_0]
          rw [qsv] at k
          exact k
        ·
          show Steps p.tables e below (T106.setTop (mkF m 126 #[.val (.long p1), .second, .val (.long p2), .second, .val (.long p3), .second, .val (.int p4), .val (.ref b1), .val (.ref b10), .val (.int md), .val (.ref b1), .unset, .unset] [(.int (lcmpW p1 (0 : Int64)))])) _
          refine XS.ifYes X106.here hx rfl (pc0 := 126) (pc' := 133) rfl (hb hby at_126) rfl ((if0 _ _).trans (flt hm126_0).2.2.2) (by decide) (by decide) ?_
          show Steps p.tables e below (T106.setTop (mkF m 133 #[.val (.long p1), .second, .val (.long p2), .second, .val (.long p3), .second, .val (.int p4), .val (.ref b1), .val (.ref b10), .val (.int md), .val (.ref b1), .unset, .unset] [])) _
          refine XS.lloadN X106.here hx rfl (hb hby at_133) rfl ?_
          show Steps p.tables e below (T106.setTop (mkF m 134 #[.val (.long p1), .second, .val (.long p2), .second, .val (.long p3), .second, .val (.int p4), .val (.ref b1), .val (.ref b10), .val (.int md), .val (.ref b1), .unset, .unset] [(.long p1)])) _
          refine XS.lconst X106.here hx rfl (hb hby at_134) ?_
          show Steps p.tables e below (T106.setTop (mkF m 135 #[.val (.long p1), .second, .val (.long p2), .second, .val (.long p3), .second, .val (.int p4), .val (.ref b1), .val (.ref b10), .val (.int md), .val (.ref b1), .unset, .unset] [(.long (0 : Int64)), (.long p1)])) _
          refine XS.lcmp X106.here hx rfl (hb hby at_135) rfl ?_
          by_cases hm136_1 : (lcmpW p1 (0 : Int64)) < (0 : Int32)
          ·
            show Steps p.tables e below (T106.setTop (mkF m 136 #[.val (.long p1), .second, .val (.long p2), .second, .val (.long p3), .second, .val (.int p4), .val (.ref b1), .val (.ref b10), .val (.int md), .val (.ref b1), .unset, .unset] [(.int (lcmpW p1 (0 : Int64)))])) _
            refine XS.ifNo X106.here hx rfl (hb hby at_136) rfl ((if0 _ _).trans (tlt hm136_1).2.1) ?_
            show Steps p.tables e below (T106.setTop (mkF m 139 #[.val (.long p1), .second, .val (.long p2), .second, .val (.long p3), .second, .val (.int p4), .val (.ref b1), .val (.ref b10), .val (.int md), .val (.ref b1), .unset, .unset] [])) _
            refine XS.iconst X106.here hx rfl (hb hby at_139) ?_
            show Steps p.tables e below (T106.setTop (mkF m 140 #[.val (.long p1), .second, .val (.long p2), .second, .val (.long p3), .second, .val (.int p4), .val (.ref b1), .val (.ref b10), .val (.int md), .val (.ref b1), .unset, .unset] [(.int (-1 : Int32))])) _
            refine XS.goto X106.here hx rfl (pc0 := 140) (pc' := 144) rfl (hb hby at_140) (by decide) (by decide) ?_
            have qsv : sv = (-1 : Int32) := by rw [hsv]; first | (simp only [hm126_0, hm136_1, if_true, if_false, reduceIte]; done) | simp [hm126_0, hm136_1]
            rw [qsv] at k
            exact k
          ·
            show Steps p.tables e below (T106.setTop (mkF m 136 #[.val (.long p1), .second, .val (.long p2), .second, .val (.long p3), .second, .val (.int p4), .val (.ref b1), .val (.ref b10), .val (.int md), .val (.ref b1), .unset, .unset] [(.int (lcmpW p1 (0 : Int64)))])) _
            refine XS.ifYes X106.here hx rfl (pc0 := 136) (pc' := 143) rfl (hb hby at_136) rfl ((if0 _ _).trans (flt hm136_1).2.1) (by decide) (by decide) ?_
            show Steps p.tables e below (T106.setTop (mkF m 143 #[.val (.long p1), .second, .val (.long p2), .second, .val (.long p3), .second, .val (.int p4), .val (.ref b1), .val (.ref b10), .val (.int md), .val (.ref b1), .unset, .unset] [])) _
            refine XS.iconst X106.here hx rfl (hb hby at_143) ?_
            have qsv : sv = (0 : Int32) := by rw [hsv]; first | (simp only [hm126_0, hm136_1, if_true, if_false, reduceIte]; done) | simp [hm126_0, hm136_1]
            rw [qsv] at k
            exact k
      have J111 : ∀ t, Steps p.tables e below (T106.setTop (mkF m 144 #[.val (.long p1), .second, .val (.long p2), .second, .val (.long p3), .second, .val (.int p4), .val (.ref b1), .val (.ref b10), .val (.int md), .val (.ref b1), .unset, .unset] [(.int sv)])) t → Steps p.tables e below (s₁.setTop (entryFrame m #[(.long p1), (.long p2), (.long p3), (.int p4)] maxLocals)) t := fun t k => J109 t (ps110 t k)
      have J112 : ∀ t, Steps p.tables e below (T106.setTop (mkF m 148 #[.val (.long p1), .second, .val (.long p2), .second, .val (.long p3), .second, .val (.int p4), .val (.ref b1), .val (.ref b10), .val (.int md), .val (.ref b1), .val (.int sv), .unset] [(.ref b1)])) t → Steps p.tables e below (s₁.setTop (entryFrame m #[(.long p1), (.long p2), (.long p3), (.int p4)] maxLocals)) t := fun t k => J111 t (by
          show Steps p.tables e below (T106.setTop (mkF m 144 #[.val (.long p1), .second, .val (.long p2), .second, .val (.long p3), .second, .val (.int p4), .val (.ref b1), .val (.ref b10), .val (.int md), .val (.ref b1), .unset, .unset] [(.int sv)])) _
          refine XS.istore X106.here hx rfl (hb hby at_144) rfl (l' := #[.val (.long p1), .second, .val (.long p2), .second, .val (.long p3), .second, .val (.int p4), .val (.ref b1), .val (.ref b10), .val (.int md), .val (.ref b1), .val (.int sv), .unset]) rfl ?_
          show Steps p.tables e below (T106.setTop (mkF m 146 #[.val (.long p1), .second, .val (.long p2), .second, .val (.long p3), .second, .val (.int p4), .val (.ref b1), .val (.ref b10), .val (.int md), .val (.ref b1), .val (.int sv), .unset] [])) _
          refine XS.aload X106.here hx rfl (hb hby at_146) rfl rfl ?_
          exact k)
      obtain ⟨cq113, kq113, q113a, q113b, q113c⟩ := isOf hZ e106 f99
      obtain ⟨_, _, ⟨T113, L113, k113, n113⟩, -, X113, ⟨Lc113, hQ113, l113, y113, z113⟩, st113⟩ := X106.virtualBack hx (y := (⟨"com/example/tranche/tranche/model/Amount", "signum", "()I"⟩ : MethodName)) (z := (⟨"com/example/tranche/tranche/model/Amount", "signum", "()I"⟩ : MethodName)) hown (mvT hZ (hw _ (List.mem_of_getElem? (i := 241) rfl))) (mvT hZ (hw _ (List.mem_of_getElem? (i := 242) rfl))) (notFace_of_selects (args := #[]) (mvT hZ (hw _ (List.mem_of_getElem? (i := 244) rfl)))) (mvT hZ (hw _ (List.mem_of_getElem? (i := 244) rfl))) (mvT hZ (hw _ (List.mem_of_getElem? (i := 243) rfl))) (by decide) (backOf (W := 0) (rm39 l Z a0 hw [] b1 p1 T94.heap n0 Z97 f105 f100) hZ (hw _ (List.mem_of_getElem? (i := 245) rfl)) (hw _ (List.mem_of_getElem? (i := 2) rfl)) (by decide) (by decide)) q113a q113c (g := (mkF m 148 #[.val (.long p1), .second, .val (.long p2), .second, .val (.long p3), .second, .val (.int p4), .val (.ref b1), .val (.ref b10), .val (.int md), .val (.ref b1), .val (.int sv), .unset] [(.ref b1)])) rfl (by rw [hml]; rfl) (Steps.refl _) (argsL := []) (rest := []) (lenOf pd_18 rfl) rfl (by show 2 * 0 + _ ≤ _; exact Nat.le_of_eq rfl) (hb hby at_148) (fun _ _ => ⟨rfl, e106, (by decide : 2 + 0 ≤ _), (by decide : 4 + 0 ≤ _)⟩)
      dsimp only [Pt.U, Pt.locs, Pt.cells, Pt.slots] at X113 l113 y113 z113 st113 hQ113
      subst y113 z113
      obtain ⟨rfl, Nq113, e113⟩ := hQ113
      have N114 : Fr n0 L113 := by rw [l113]; exact Fr.app N107 Nq113
      have J115 : ∀ t, Steps p.tables e below (T113.setTop (mkF m 151 #[.val (.long p1), .second, .val (.long p2), .second, .val (.long p3), .second, .val (.int p4), .val (.ref b1), .val (.ref b10), .val (.int md), .val (.ref b1), .val (.int sv), .unset] [(.int (own_sg p1))])) t → Steps p.tables e below (s₁.setTop (entryFrame m #[(.long p1), (.long p2), (.long p3), (.int p4)] maxLocals)) t := fun t k => J112 t (st113.trans k)
      have J116 : ∀ t, Steps p.tables e below (T113.setTop (mkF m 162 #[.val (.long p1), .second, .val (.long p2), .second, .val (.long p3), .second, .val (.int p4), .val (.ref b1), .val (.ref b10), .val (.int md), .val (.ref b1), .val (.int sv), .unset] [(.ref b10), (.ref b1)])) t → Steps p.tables e below (s₁.setTop (entryFrame m #[(.long p1), (.long p2), (.long p3), (.int p4)] maxLocals)) t := fun t k => J115 t (by
          show Steps p.tables e below (T113.setTop (mkF m 151 #[.val (.long p1), .second, .val (.long p2), .second, .val (.long p3), .second, .val (.int p4), .val (.ref b1), .val (.ref b10), .val (.int md), .val (.ref b1), .val (.int sv), .unset] [(.int (own_sg p1))])) _
          refine XS.iload X113.here hx rfl (hb hby at_151) rfl ?_
          show Steps p.tables e below (T113.setTop (mkF m 153 #[.val (.long p1), .second, .val (.long p2), .second, .val (.long p3), .second, .val (.int p4), .val (.ref b1), .val (.ref b10), .val (.int md), .val (.ref b1), .val (.int sv), .unset] [(.int sv), (.int (own_sg p1))])) _
          refine XS.icmpYes X113.here hx rfl (pc0 := 153) (pc' := 158) rfl (hb hby at_153) rfl (teq (own_sgn p1 sv hsv)).1 (by decide) (by decide) ?_
          show Steps p.tables e below (T113.setTop (mkF m 158 #[.val (.long p1), .second, .val (.long p2), .second, .val (.long p3), .second, .val (.int p4), .val (.ref b1), .val (.ref b10), .val (.int md), .val (.ref b1), .val (.int sv), .unset] [])) _
          refine XS.aload X113.here hx rfl (hb hby at_158) rfl rfl ?_
          show Steps p.tables e below (T113.setTop (mkF m 160 #[.val (.long p1), .second, .val (.long p2), .second, .val (.long p3), .second, .val (.int p4), .val (.ref b1), .val (.ref b10), .val (.int md), .val (.ref b1), .val (.int sv), .unset] [(.ref b1)])) _
          refine XS.aload X113.here hx rfl (hb hby at_160) rfl rfl ?_
          exact k)
      obtain ⟨cq117, kq117, q117a, q117b, q117c⟩ := isOf hZ e113 f99
      obtain ⟨_, _, ⟨T117, L117, k117, n117⟩, -, X117, ⟨Lc117, hQ117, l117, y117, z117⟩, st117⟩ := X113.virtualBack hx (y := (⟨"com/example/tranche/tranche/model/Amount", "compareTo", "(Lcom/example/tranche/tranche/model/Amount;)I"⟩ : MethodName)) (z := (⟨"com/example/tranche/tranche/model/Amount", "compareTo", "(Lcom/example/tranche/tranche/model/Amount;)I"⟩ : MethodName)) hown (mvT hZ (hw _ (List.mem_of_getElem? (i := 247) rfl))) (mvT hZ (hw _ (List.mem_of_getElem? (i := 248) rfl))) (notFace_of_selects (args := #[]) (mvT hZ (hw _ (List.mem_of_getElem? (i := 250) rfl)))) (mvT hZ (hw _ (List.mem_of_getElem? (i := 250) rfl))) (mvT hZ (hw _ (List.mem_of_getElem? (i := 249) rfl))) (by decide) (backOf (W := 0) (rm40 l Z a0 hw [] b1 b10 p1 p3 T94.heap n0 Z97 f105 f100 p94_2 p94_3) hZ (hw _ (List.mem_of_getElem? (i := 251) rfl)) (hw _ (List.mem_of_getElem? (i := 2) rfl)) (by decide) (by decide)) q117a q117c (g := (mkF m 162 #[.val (.long p1), .second, .val (.long p2), .second, .val (.long p3), .second, .val (.int p4), .val (.ref b1), .val (.ref b10), .val (.int md), .val (.ref b1), .val (.int sv), .unset] [(.ref b10), (.ref b1)])) rfl (by rw [hml]; rfl) (Steps.refl _) (argsL := [(.ref b10)]) (rest := []) (lenOf pd_26 rfl) rfl (by show 2 * 0 + _ ≤ _; exact Nat.le_of_eq rfl) (hb hby at_162) (fun _ _ => ⟨rfl, e113, (by decide : 2 + 0 ≤ _), (by decide : 4 + 0 ≤ _)⟩)
      dsimp only [Pt.U, Pt.locs, Pt.cells, Pt.slots] at X117 l117 y117 z117 st117 hQ117
      subst y117 z117
      obtain ⟨rfl, Nq117, e117⟩ := hQ117
      have N118 : Fr n0 L117 := by rw [l117]; exact Fr.app N114 Nq117
      have J119 : ∀ t, Steps p.tables e below (T117.setTop (mkF m 165 #[.val (.long p1), .second, .val (.long p2), .second, .val (.long p3), .second, .val (.int p4), .val (.ref b1), .val (.ref b10), .val (.int md), .val (.ref b1), .val (.int sv), .unset] [(.int (own_cmp p1 p3))])) t → Steps p.tables e below (s₁.setTop (entryFrame m #[(.long p1), (.long p2), (.long p3), (.int p4)] maxLocals)) t := fun t k => J116 t (st117.trans k)
      have J120 : ∀ t, Steps p.tables e below (T117.setTop (mkF m 171 #[.val (.long p1), .second, .val (.long p2), .second, .val (.long p3), .second, .val (.int p4), .val (.ref b1), .val (.ref b10), .val (.int md), .val (.ref b1), .val (.int sv), .val (.int (own_cmp p1 p3))] [(.int (lcmpW p1 p3))])) t → Steps p.tables e below (s₁.setTop (entryFrame m #[(.long p1), (.long p2), (.long p3), (.int p4)] maxLocals)) t := fun t k => J119 t (by
          show Steps p.tables e below (T117.setTop (mkF m 165 #[.val (.long p1), .second, .val (.long p2), .second, .val (.long p3), .second, .val (.int p4), .val (.ref b1), .val (.ref b10), .val (.int md), .val (.ref b1), .val (.int sv), .unset] [(.int (own_cmp p1 p3))])) _
          refine XS.istore X117.here hx rfl (hb hby at_165) rfl (l' := #[.val (.long p1), .second, .val (.long p2), .second, .val (.long p3), .second, .val (.int p4), .val (.ref b1), .val (.ref b10), .val (.int md), .val (.ref b1), .val (.int sv), .val (.int (own_cmp p1 p3))]) rfl ?_
          show Steps p.tables e below (T117.setTop (mkF m 167 #[.val (.long p1), .second, .val (.long p2), .second, .val (.long p3), .second, .val (.int p4), .val (.ref b1), .val (.ref b10), .val (.int md), .val (.ref b1), .val (.int sv), .val (.int (own_cmp p1 p3))] [])) _
          refine XS.lloadN X117.here hx rfl (hb hby at_167) rfl ?_
          show Steps p.tables e below (T117.setTop (mkF m 168 #[.val (.long p1), .second, .val (.long p2), .second, .val (.long p3), .second, .val (.int p4), .val (.ref b1), .val (.ref b10), .val (.int md), .val (.ref b1), .val (.int sv), .val (.int (own_cmp p1 p3))] [(.long p1)])) _
          refine XS.lload X117.here hx rfl (hb hby at_168) rfl ?_
          show Steps p.tables e below (T117.setTop (mkF m 170 #[.val (.long p1), .second, .val (.long p2), .second, .val (.long p3), .second, .val (.int p4), .val (.ref b1), .val (.ref b10), .val (.int md), .val (.ref b1), .val (.int sv), .val (.int (own_cmp p1 p3))] [(.long p3), (.long p1)])) _
          refine XS.lcmp X117.here hx rfl (hb hby at_170) rfl ?_
          exact k)
      by_cases hlt : p1 < p3
      ·
        have J121 : ∀ t, Steps p.tables e below (T117.setTop (mkF m 184 #[.val (.long p1), .second, .val (.long p2), .second, .val (.long p3), .second, .val (.int p4), .val (.ref b1), .val (.ref b10), .val (.int md), .val (.ref b1), .val (.int sv), .val (.int (own_cmp p1 p3))] [(.int (1 : Int32))])) t → Steps p.tables e below (s₁.setTop (entryFrame m #[(.long p1), (.long p2), (.long p3), (.int p4)] maxLocals)) t := fun t k => J120 t (by
            show Steps p.tables e below (T117.setTop (mkF m 171 #[.val (.long p1), .second, .val (.long p2), .second, .val (.long p3), .second, .val (.int p4), .val (.ref b1), .val (.ref b10), .val (.int md), .val (.ref b1), .val (.int sv), .val (.int (own_cmp p1 p3))] [(.int (lcmpW p1 p3))])) _
            refine XS.ifNo X117.here hx rfl (hb hby at_171) rfl ((if0 _ _).trans (tlt (by rw [own_l1 hlt]; decide)).2.1) ?_
            show Steps p.tables e below (T117.setTop (mkF m 174 #[.val (.long p1), .second, .val (.long p2), .second, .val (.long p3), .second, .val (.int p4), .val (.ref b1), .val (.ref b10), .val (.int md), .val (.ref b1), .val (.int sv), .val (.int (own_cmp p1 p3))] [])) _
            refine XS.iload X117.here hx rfl (hb hby at_174) rfl ?_
            show Steps p.tables e below (T117.setTop (mkF m 176 #[.val (.long p1), .second, .val (.long p2), .second, .val (.long p3), .second, .val (.int p4), .val (.ref b1), .val (.ref b10), .val (.int md), .val (.ref b1), .val (.int sv), .val (.int (own_cmp p1 p3))] [(.int (own_cmp p1 p3))])) _
            refine XS.ifNo X117.here hx rfl (hb hby at_176) rfl ((if0 _ _).trans (tlt (by rw [own_c1 hlt]; decide)).2.1) ?_
            show Steps p.tables e below (T117.setTop (mkF m 179 #[.val (.long p1), .second, .val (.long p2), .second, .val (.long p3), .second, .val (.int p4), .val (.ref b1), .val (.ref b10), .val (.int md), .val (.ref b1), .val (.int sv), .val (.int (own_cmp p1 p3))] [])) _
            refine XS.iconst X117.here hx rfl (hb hby at_179) ?_
            show Steps p.tables e below (T117.setTop (mkF m 180 #[.val (.long p1), .second, .val (.long p2), .second, .val (.long p3), .second, .val (.int p4), .val (.ref b1), .val (.ref b10), .val (.int md), .val (.ref b1), .val (.int sv), .val (.int (own_cmp p1 p3))] [(.int (1 : Int32))])) _
            refine XS.goto X117.here hx rfl (pc0 := 180) (pc' := 184) rfl (hb hby at_180) (by decide) (by decide) ?_
            exact k)
        obtain ⟨fs, hr, hrun, hended, hWW⟩ := X117.leaveW hSi (by rw [e117]; exact kz) (v := some (.int (1 : Int32))) (fun h => by rw [Bd.returns] at h; cases h)
        refine ⟨_, _, J121 _ ?_, hrun, hended, _, _, rfl, ?_, hWW.1, hWW.2.1, hWW.2.2.1, hWW.2.2.2.mono (by decide) (by decide)⟩
        · show Steps p.tables e below (T117.setTop (mkF m 184 #[.val (.long p1), .second, .val (.long p2), .second, .val (.long p3), .second, .val (.int p4), .val (.ref b1), .val (.ref b10), .val (.int md), .val (.ref b1), .val (.int sv), .val (.int (own_cmp p1 p3))] [(.int (1 : Int32))])) _
          exact retN X117 hx (t := .boolean) Bd.returns (by simp) (hb hby at_184) hr
        · show Q0 Z p1 p2 p3 p4 h0 n0 _ T117.heap _
          rw [e117]
          exact ⟨rfl, N118⟩
      ·
        have J122 : ∀ t, Steps p.tables e below (T117.setTop (mkF m 189 #[.val (.long p1), .second, .val (.long p2), .second, .val (.long p3), .second, .val (.int p4), .val (.ref b1), .val (.ref b10), .val (.int md), .val (.ref b1), .val (.int sv), .val (.int (own_cmp p1 p3))] [(.int (lcmpW p1 p3))])) t → Steps p.tables e below (s₁.setTop (entryFrame m #[(.long p1), (.long p2), (.long p3), (.int p4)] maxLocals)) t := fun t k => J120 t (by
            show Steps p.tables e below (T117.setTop (mkF m 171 #[.val (.long p1), .second, .val (.long p2), .second, .val (.long p3), .second, .val (.int p4), .val (.ref b1), .val (.ref b10), .val (.int md), .val (.ref b1), .val (.int sv), .val (.int (own_cmp p1 p3))] [(.int (lcmpW p1 p3))])) _
            refine XS.ifYes X117.here hx rfl (pc0 := 171) (pc' := 185) rfl (hb hby at_171) rfl ((if0 _ _).trans (flt (own_n1 hlt)).2.1) (by decide) (by decide) ?_
            show Steps p.tables e below (T117.setTop (mkF m 185 #[.val (.long p1), .second, .val (.long p2), .second, .val (.long p3), .second, .val (.int p4), .val (.ref b1), .val (.ref b10), .val (.int md), .val (.ref b1), .val (.int sv), .val (.int (own_cmp p1 p3))] [])) _
            refine XS.lloadN X117.here hx rfl (hb hby at_185) rfl ?_
            show Steps p.tables e below (T117.setTop (mkF m 186 #[.val (.long p1), .second, .val (.long p2), .second, .val (.long p3), .second, .val (.int p4), .val (.ref b1), .val (.ref b10), .val (.int md), .val (.ref b1), .val (.int sv), .val (.int (own_cmp p1 p3))] [(.long p1)])) _
            refine XS.lload X117.here hx rfl (hb hby at_186) rfl ?_
            show Steps p.tables e below (T117.setTop (mkF m 188 #[.val (.long p1), .second, .val (.long p2), .second, .val (.long p3), .second, .val (.int p4), .val (.ref b1), .val (.ref b10), .val (.int md), .val (.ref b1), .val (.int sv), .val (.int (own_cmp p1 p3))] [(.long p3), (.long p1)])) _
            refine XS.lcmp X117.here hx rfl (hb hby at_188) rfl ?_
            exact k)
        by_cases hgt : p3 < p1
        ·
          have J123 : ∀ t, Steps p.tables e below (T117.setTop (mkF m 202 #[.val (.long p1), .second, .val (.long p2), .second, .val (.long p3), .second, .val (.int p4), .val (.ref b1), .val (.ref b10), .val (.int md), .val (.ref b1), .val (.int sv), .val (.int (own_cmp p1 p3))] [(.int (1 : Int32))])) t → Steps p.tables e below (s₁.setTop (entryFrame m #[(.long p1), (.long p2), (.long p3), (.int p4)] maxLocals)) t := fun t k => J122 t (by
              show Steps p.tables e below (T117.setTop (mkF m 189 #[.val (.long p1), .second, .val (.long p2), .second, .val (.long p3), .second, .val (.int p4), .val (.ref b1), .val (.ref b10), .val (.int md), .val (.ref b1), .val (.int sv), .val (.int (own_cmp p1 p3))] [(.int (lcmpW p1 p3))])) _
              refine XS.ifNo X117.here hx rfl (hb hby at_189) rfl ((if0 _ _).trans (tlt (by rw [own_l2 hgt]; decide)).2.2.2) ?_
              show Steps p.tables e below (T117.setTop (mkF m 192 #[.val (.long p1), .second, .val (.long p2), .second, .val (.long p3), .second, .val (.int p4), .val (.ref b1), .val (.ref b10), .val (.int md), .val (.ref b1), .val (.int sv), .val (.int (own_cmp p1 p3))] [])) _
              refine XS.iload X117.here hx rfl (hb hby at_192) rfl ?_
              show Steps p.tables e below (T117.setTop (mkF m 194 #[.val (.long p1), .second, .val (.long p2), .second, .val (.long p3), .second, .val (.int p4), .val (.ref b1), .val (.ref b10), .val (.int md), .val (.ref b1), .val (.int sv), .val (.int (own_cmp p1 p3))] [(.int (own_cmp p1 p3))])) _
              refine XS.ifNo X117.here hx rfl (hb hby at_194) rfl ((if0 _ _).trans (tlt (by rw [own_c2 hgt]; decide)).2.2.2) ?_
              show Steps p.tables e below (T117.setTop (mkF m 197 #[.val (.long p1), .second, .val (.long p2), .second, .val (.long p3), .second, .val (.int p4), .val (.ref b1), .val (.ref b10), .val (.int md), .val (.ref b1), .val (.int sv), .val (.int (own_cmp p1 p3))] [])) _
              refine XS.iconst X117.here hx rfl (hb hby at_197) ?_
              show Steps p.tables e below (T117.setTop (mkF m 198 #[.val (.long p1), .second, .val (.long p2), .second, .val (.long p3), .second, .val (.int p4), .val (.ref b1), .val (.ref b10), .val (.int md), .val (.ref b1), .val (.int sv), .val (.int (own_cmp p1 p3))] [(.int (1 : Int32))])) _
              refine XS.goto X117.here hx rfl (pc0 := 198) (pc' := 202) rfl (hb hby at_198) (by decide) (by decide) ?_
              exact k)
          obtain ⟨fs, hr, hrun, hended, hWW⟩ := X117.leaveW hSi (by rw [e117]; exact kz) (v := some (.int (1 : Int32))) (fun h => by rw [Bd.returns] at h; cases h)
          refine ⟨_, _, J123 _ ?_, hrun, hended, _, _, rfl, ?_, hWW.1, hWW.2.1, hWW.2.2.1, hWW.2.2.2.mono (by decide) (by decide)⟩
          · show Steps p.tables e below (T117.setTop (mkF m 202 #[.val (.long p1), .second, .val (.long p2), .second, .val (.long p3), .second, .val (.int p4), .val (.ref b1), .val (.ref b10), .val (.int md), .val (.ref b1), .val (.int sv), .val (.int (own_cmp p1 p3))] [(.int (1 : Int32))])) _
            exact retN X117 hx (t := .boolean) Bd.returns (by simp) (hb hby at_202) hr
          · show Q0 Z p1 p2 p3 p4 h0 n0 _ T117.heap _
            rw [e117]
            exact ⟨rfl, N118⟩
        ·
          have J124 : ∀ t, Steps p.tables e below (T117.setTop (mkF m 213 #[.val (.long p1), .second, .val (.long p2), .second, .val (.long p3), .second, .val (.int p4), .val (.ref b1), .val (.ref b10), .val (.int md), .val (.ref b1), .val (.int sv), .val (.int (own_cmp p1 p3))] [(.int (1 : Int32))])) t → Steps p.tables e below (s₁.setTop (entryFrame m #[(.long p1), (.long p2), (.long p3), (.int p4)] maxLocals)) t := fun t k => J122 t (by
              show Steps p.tables e below (T117.setTop (mkF m 189 #[.val (.long p1), .second, .val (.long p2), .second, .val (.long p3), .second, .val (.int p4), .val (.ref b1), .val (.ref b10), .val (.int md), .val (.ref b1), .val (.int sv), .val (.int (own_cmp p1 p3))] [(.int (lcmpW p1 p3))])) _
              refine XS.ifYes X117.here hx rfl (pc0 := 189) (pc' := 203) rfl (hb hby at_189) rfl ((if0 _ _).trans (flt (own_n2 hgt)).2.2.2) (by decide) (by decide) ?_
              show Steps p.tables e below (T117.setTop (mkF m 203 #[.val (.long p1), .second, .val (.long p2), .second, .val (.long p3), .second, .val (.int p4), .val (.ref b1), .val (.ref b10), .val (.int md), .val (.ref b1), .val (.int sv), .val (.int (own_cmp p1 p3))] [])) _
              refine XS.iload X117.here hx rfl (hb hby at_203) rfl ?_
              show Steps p.tables e below (T117.setTop (mkF m 205 #[.val (.long p1), .second, .val (.long p2), .second, .val (.long p3), .second, .val (.int p4), .val (.ref b1), .val (.ref b10), .val (.int md), .val (.ref b1), .val (.int sv), .val (.int (own_cmp p1 p3))] [(.int (own_cmp p1 p3))])) _
              refine XS.ifNo X117.here hx rfl (hb hby at_205) rfl ((if0 _ _).trans (teq (own_c3 hlt hgt)).2) ?_
              show Steps p.tables e below (T117.setTop (mkF m 208 #[.val (.long p1), .second, .val (.long p2), .second, .val (.long p3), .second, .val (.int p4), .val (.ref b1), .val (.ref b10), .val (.int md), .val (.ref b1), .val (.int sv), .val (.int (own_cmp p1 p3))] [])) _
              refine XS.iconst X117.here hx rfl (hb hby at_208) ?_
              show Steps p.tables e below (T117.setTop (mkF m 209 #[.val (.long p1), .second, .val (.long p2), .second, .val (.long p3), .second, .val (.int p4), .val (.ref b1), .val (.ref b10), .val (.int md), .val (.ref b1), .val (.int sv), .val (.int (own_cmp p1 p3))] [(.int (1 : Int32))])) _
              refine XS.goto X117.here hx rfl (pc0 := 209) (pc' := 213) rfl (hb hby at_209) (by decide) (by decide) ?_
              exact k)
          obtain ⟨fs, hr, hrun, hended, hWW⟩ := X117.leaveW hSi (by rw [e117]; exact kz) (v := some (.int (1 : Int32))) (fun h => by rw [Bd.returns] at h; cases h)
          refine ⟨_, _, J124 _ ?_, hrun, hended, _, _, rfl, ?_, hWW.1, hWW.2.1, hWW.2.2.1, hWW.2.2.2.mono (by decide) (by decide)⟩
          · show Steps p.tables e below (T117.setTop (mkF m 213 #[.val (.long p1), .second, .val (.long p2), .second, .val (.long p3), .second, .val (.int p4), .val (.ref b1), .val (.ref b10), .val (.int md), .val (.ref b1), .val (.int sv), .val (.int (own_cmp p1 p3))] [(.int (1 : Int32))])) _
            exact retN X117 hx (t := .boolean) Bd.returns (by simp) (hb hby at_213) hr
          · show Q0 Z p1 p2 p3 p4 h0 n0 _ T117.heap _
            rw [e117]
            exact ⟨rfl, N118⟩
    ·
      have J125 : ∀ t, Steps p.tables e below (T16.setTop (mkF m 49 #[.val (.long p1), .second, .val (.long p2), .second, .val (.long p3), .second, .val (.int p4), .val (.ref b1), .val (.ref b10), .val (.int md), .unset, .unset, .unset] [(.int (2 : Int32)), (.int md)])) t → Steps p.tables e below (s₁.setTop (entryFrame m #[(.long p1), (.long p2), (.long p3), (.int p4)] maxLocals)) t := fun t k => J73 t (by
          show Steps p.tables e below (T16.setTop (mkF m 33 #[.val (.long p1), .second, .val (.long p2), .second, .val (.long p3), .second, .val (.int p4), .val (.ref b1), .val (.ref b10), .val (.int md), .unset, .unset, .unset] [(.int (3 : Int32)), (.int md)])) _
          refine XS.icmpYes X16.here hx rfl (pc0 := 33) (pc' := 46) rfl (hb hby at_33) rfl (feq h3).2 (by decide) (by decide) ?_
          show Steps p.tables e below (T16.setTop (mkF m 46 #[.val (.long p1), .second, .val (.long p2), .second, .val (.long p3), .second, .val (.int p4), .val (.ref b1), .val (.ref b10), .val (.int md), .unset, .unset, .unset] [])) _
          refine XS.iload X16.here hx rfl (hb hby at_46) rfl ?_
          show Steps p.tables e below (T16.setTop (mkF m 48 #[.val (.long p1), .second, .val (.long p2), .second, .val (.long p3), .second, .val (.int p4), .val (.ref b1), .val (.ref b10), .val (.int md), .unset, .unset, .unset] [(.int md)])) _
          refine XS.iconst X16.here hx rfl (hb hby at_48) ?_
          exact k)
      by_cases h2 : md = (2 : Int32)
      ·
        have J126 : ∀ t, Steps p.tables e below (T16.setTop (mkF m 57 #[.val (.long p1), .second, .val (.long p2), .second, .val (.long p3), .second, .val (.int p4), .val (.ref b1), .val (.ref b10), .val (.int md), .unset, .unset, .unset] [(.long (9223372036854775807 : Int64)), (.ref b1)])) t → Steps p.tables e below (s₁.setTop (entryFrame m #[(.long p1), (.long p2), (.long p3), (.int p4)] maxLocals)) t := fun t k => J125 t (by
            show Steps p.tables e below (T16.setTop (mkF m 49 #[.val (.long p1), .second, .val (.long p2), .second, .val (.long p3), .second, .val (.int p4), .val (.ref b1), .val (.ref b10), .val (.int md), .unset, .unset, .unset] [(.int (2 : Int32)), (.int md)])) _
            refine XS.icmpNo X16.here hx rfl (hb hby at_49) rfl (teq h2).2 ?_
            show Steps p.tables e below (T16.setTop (mkF m 52 #[.val (.long p1), .second, .val (.long p2), .second, .val (.long p3), .second, .val (.int p4), .val (.ref b1), .val (.ref b10), .val (.int md), .unset, .unset, .unset] [])) _
            refine XS.aload X16.here hx rfl (hb hby at_52) rfl rfl ?_
            show Steps p.tables e below (T16.setTop (mkF m 54 #[.val (.long p1), .second, .val (.long p2), .second, .val (.long p3), .second, .val (.int p4), .val (.ref b1), .val (.ref b10), .val (.int md), .unset, .unset, .unset] [(.ref b1)])) _
            refine X16.ldc2Long hx hown (mvT hZ (hw _ (List.mem_of_getElem? (i := 9) rfl))) (g := (mkF m 54 #[.val (.long p1), .second, .val (.long p2), .second, .val (.long p3), .second, .val (.int p4), .val (.ref b1), .val (.ref b10), .val (.int md), .unset, .unset, .unset] [(.ref b1)])) rfl (hb hby at_54) _ ?_
            exact k)
        have f127 := A1.ext E10
        have f128 := F1_cents.ext E10
        have f129 := F1_wide.ext E10
        obtain ⟨cq130, kq130, q130a, q130b, q130c⟩ := isOf hZ e16 f127
        obtain ⟨_, _, ⟨T130, L130, k130, n130⟩, -, X130, ⟨Lc130, hQ130, l130, y130, z130⟩, st130⟩ := X16.virtualBack hx (y := (⟨"com/example/tranche/tranche/model/Amount", "set", "(J)Lcom/example/tranche/tranche/model/Amount;"⟩ : MethodName)) (z := (⟨"com/example/tranche/tranche/model/Amount", "set", "(J)Lcom/example/tranche/tranche/model/Amount;"⟩ : MethodName)) hown (mvT hZ (hw _ (List.mem_of_getElem? (i := 10) rfl))) (mvT hZ (hw _ (List.mem_of_getElem? (i := 11) rfl))) (notFace_of_selects (args := #[]) (mvT hZ (hw _ (List.mem_of_getElem? (i := 13) rfl)))) (mvT hZ (hw _ (List.mem_of_getElem? (i := 13) rfl))) (mvT hZ (hw _ (List.mem_of_getElem? (i := 12) rfl))) (by decide) (backOf (W := 0) (rm3 l Z a0 hw [] b1 (9223372036854775807 : Int64) (.long (0 : Int64)) .null h10 n0 Z14 f127 ge3 f128 f129) hZ (hw _ (List.mem_of_getElem? (i := 14) rfl)) (hw _ (List.mem_of_getElem? (i := 2) rfl)) (by decide) (by decide)) q130a q130c (g := (mkF m 57 #[.val (.long p1), .second, .val (.long p2), .second, .val (.long p3), .second, .val (.int p4), .val (.ref b1), .val (.ref b10), .val (.int md), .unset, .unset, .unset] [(.long (9223372036854775807 : Int64)), (.ref b1)])) rfl (by rw [hml]; rfl) (Steps.refl _) (argsL := [(.long (9223372036854775807 : Int64))]) (rest := []) (lenOf pd_23 rfl) rfl (by show 2 * 0 + _ ≤ _; exact Nat.le_of_eq rfl) (hb hby at_57) (fun _ _ => ⟨rfl, e16, (by decide : 2 + 0 ≤ _), (by decide : 4 + 0 ≤ _)⟩)
        dsimp only [Pt.U, Pt.locs, Pt.cells, Pt.slots] at X130 l130 y130 z130 st130 hQ130
        subst y130 z130
        obtain ⟨rfl, Nq130, K130, p130_1, p130_2, p130_3⟩ := hQ130
        have N131 : Fr n0 L130 := by rw [l130]; exact Fr.app N17 Nq130
        have J132 : ∀ t, Steps p.tables e below (T130.setTop (mkF m 60 #[.val (.long p1), .second, .val (.long p2), .second, .val (.long p3), .second, .val (.int p4), .val (.ref b1), .val (.ref b10), .val (.int md), .unset, .unset, .unset] [(.ref b1)])) t → Steps p.tables e below (s₁.setTop (entryFrame m #[(.long p1), (.long p2), (.long p3), (.int p4)] maxLocals)) t := fun t k => J126 t (st130.trans k)
        have Z133 : n0 ≤ T130.heap.size := Nat.le_trans Z14 K130.1
        have kz := Nat.le_trans kz K130.1
        have J134 : ∀ t, Steps p.tables e below (T130.setTop (mkF m 64 #[.val (.long p1), .second, .val (.long p2), .second, .val (.long p3), .second, .val (.int p4), .val (.ref b1), .val (.ref b10), .val (.int md), .unset, .unset, .unset] [(.long (1 : Int64)), (.ref b10)])) t → Steps p.tables e below (s₁.setTop (entryFrame m #[(.long p1), (.long p2), (.long p3), (.int p4)] maxLocals)) t := fun t k => J132 t (by
            show Steps p.tables e below (T130.setTop (mkF m 60 #[.val (.long p1), .second, .val (.long p2), .second, .val (.long p3), .second, .val (.int p4), .val (.ref b1), .val (.ref b10), .val (.int md), .unset, .unset, .unset] [(.ref b1)])) _
            refine XS.pop X130.here hx rfl (hb hby at_60) rfl rfl ?_
            show Steps p.tables e below (T130.setTop (mkF m 61 #[.val (.long p1), .second, .val (.long p2), .second, .val (.long p3), .second, .val (.int p4), .val (.ref b1), .val (.ref b10), .val (.int md), .unset, .unset, .unset] [])) _
            refine XS.aload X130.here hx rfl (hb hby at_61) rfl rfl ?_
            show Steps p.tables e below (T130.setTop (mkF m 63 #[.val (.long p1), .second, .val (.long p2), .second, .val (.long p3), .second, .val (.int p4), .val (.ref b1), .val (.ref b10), .val (.int md), .unset, .unset, .unset] [(.ref b10)])) _
            refine XS.lconst X130.here hx rfl (hb hby at_63) ?_
            exact k)
        have f135 := A10.keep K130
        have f136 := F10_cents.keep K130 (ninS (Ne.symm ne12) nin0)
        have f137 := F10_wide.keep K130 (ninS (Ne.symm ne12) nin0)
        obtain ⟨cq138, kq138, q138a, q138b, q138c⟩ := isOf hZ rfl f135
        obtain ⟨_, _, ⟨T138, L138, k138, n138⟩, -, X138, ⟨Lc138, hQ138, l138, y138, z138⟩, st138⟩ := X130.virtualBack hx (y := (⟨"com/example/tranche/tranche/model/Amount", "set", "(J)Lcom/example/tranche/tranche/model/Amount;"⟩ : MethodName)) (z := (⟨"com/example/tranche/tranche/model/Amount", "set", "(J)Lcom/example/tranche/tranche/model/Amount;"⟩ : MethodName)) hown (mvT hZ (hw _ (List.mem_of_getElem? (i := 10) rfl))) (mvT hZ (hw _ (List.mem_of_getElem? (i := 11) rfl))) (notFace_of_selects (args := #[]) (mvT hZ (hw _ (List.mem_of_getElem? (i := 13) rfl)))) (mvT hZ (hw _ (List.mem_of_getElem? (i := 13) rfl))) (mvT hZ (hw _ (List.mem_of_getElem? (i := 12) rfl))) (by decide) (backOf (W := 0) (rm3 l Z a0 hw [] b10 (1 : Int64) (.long (0 : Int64)) .null T130.heap n0 Z133 f135 ge13 f136 f137) hZ (hw _ (List.mem_of_getElem? (i := 14) rfl)) (hw _ (List.mem_of_getElem? (i := 2) rfl)) (by decide) (by decide)) q138a q138c (g := (mkF m 64 #[.val (.long p1), .second, .val (.long p2), .second, .val (.long p3), .second, .val (.int p4), .val (.ref b1), .val (.ref b10), .val (.int md), .unset, .unset, .unset] [(.long (1 : Int64)), (.ref b10)])) rfl (by rw [hml]; rfl) (Steps.refl _) (argsL := [(.long (1 : Int64))]) (rest := []) (lenOf pd_23 rfl) rfl (by show 2 * 0 + _ ≤ _; exact Nat.le_of_eq rfl) (hb hby at_64) (fun _ _ => ⟨rfl, rfl, (by decide : 2 + 0 ≤ _), (by decide : 4 + 0 ≤ _)⟩)
        dsimp only [Pt.U, Pt.locs, Pt.cells, Pt.slots] at X138 l138 y138 z138 st138 hQ138
        subst y138 z138
        obtain ⟨rfl, Nq138, K138, p138_1, p138_2, p138_3⟩ := hQ138
        have N139 : Fr n0 L138 := by rw [l138]; exact Fr.app N131 Nq138
        have J140 : ∀ t, Steps p.tables e below (T138.setTop (mkF m 67 #[.val (.long p1), .second, .val (.long p2), .second, .val (.long p3), .second, .val (.int p4), .val (.ref b1), .val (.ref b10), .val (.int md), .unset, .unset, .unset] [(.ref b10)])) t → Steps p.tables e below (s₁.setTop (entryFrame m #[(.long p1), (.long p2), (.long p3), (.int p4)] maxLocals)) t := fun t k => J134 t (st138.trans k)
        have Z141 : n0 ≤ T138.heap.size := Nat.le_trans Z133 K138.1
        have kz := Nat.le_trans kz K138.1
        have J142 : ∀ t, Steps p.tables e below (T138.setTop (mkF m 72 #[.val (.long p1), .second, .val (.long p2), .second, .val (.long p3), .second, .val (.int p4), .val (.ref b1), .val (.ref b10), .val (.int md), .unset, .unset, .unset] [(.ref b10), (.ref b1)])) t → Steps p.tables e below (s₁.setTop (entryFrame m #[(.long p1), (.long p2), (.long p3), (.int p4)] maxLocals)) t := fun t k => J140 t (by
            show Steps p.tables e below (T138.setTop (mkF m 67 #[.val (.long p1), .second, .val (.long p2), .second, .val (.long p3), .second, .val (.int p4), .val (.ref b1), .val (.ref b10), .val (.int md), .unset, .unset, .unset] [(.ref b10)])) _
            refine XS.pop X138.here hx rfl (hb hby at_67) rfl rfl ?_
            show Steps p.tables e below (T138.setTop (mkF m 68 #[.val (.long p1), .second, .val (.long p2), .second, .val (.long p3), .second, .val (.int p4), .val (.ref b1), .val (.ref b10), .val (.int md), .unset, .unset, .unset] [])) _
            refine XS.aload X138.here hx rfl (hb hby at_68) rfl rfl ?_
            show Steps p.tables e below (T138.setTop (mkF m 70 #[.val (.long p1), .second, .val (.long p2), .second, .val (.long p3), .second, .val (.int p4), .val (.ref b1), .val (.ref b10), .val (.int md), .unset, .unset, .unset] [(.ref b1)])) _
            refine XS.aload X138.here hx rfl (hb hby at_70) rfl rfl ?_
            exact k)
        have f143 := p130_1.keep K138
        have f144 := p130_2.keep K138 (ninS ne12 nin0)
        have f145 := p130_3.keep K138 (ninS ne12 nin0)
        have f146 := O.ext E1
        have f147 := f146.ext E10
        have f148 := f147.keep K130 (allS ge3 all0)
        have f149 := f148.keep K138 (allS ge13 all0)
        obtain ⟨cq150, kq150, q150a, q150b, q150c⟩ := isOf hZ rfl f143
        obtain ⟨_, _, ⟨T150, L150, k150, n150⟩, -, X150, hS150, hG150, ⟨Lc150, hQ150, l150, y150, z150⟩, st150⟩ := X138.virtualBackS hx (y := (⟨"com/example/tranche/tranche/model/Amount", "add", "(Lcom/example/tranche/tranche/model/Amount;)Lcom/example/tranche/tranche/model/Amount;"⟩ : MethodName)) (z := (⟨"com/example/tranche/tranche/model/Amount", "add", "(Lcom/example/tranche/tranche/model/Amount;)Lcom/example/tranche/tranche/model/Amount;"⟩ : MethodName)) hown (mvT hZ (hw _ (List.mem_of_getElem? (i := 19) rfl))) (mvT hZ (hw _ (List.mem_of_getElem? (i := 20) rfl))) (notFace_of_selects (args := #[]) (mvT hZ (hw _ (List.mem_of_getElem? (i := 22) rfl)))) (mvT hZ (hw _ (List.mem_of_getElem? (i := 22) rfl))) (mvT hZ (hw _ (List.mem_of_getElem? (i := 21) rfl))) (by decide) (own_backW (W := 0) (rm4 l hl Z a0 hw [] b1 b10 us ss T138.heap n0 Z141 f143 ge3 p138_1 ne12 f144 f145 p138_2 p138_3 f149 Zu Zs (by assumption)) hZ (hw _ (List.mem_of_getElem? (i := 23) rfl)) (hw _ (List.mem_of_getElem? (i := 2) rfl)) (by decide) (by decide) hTK hBelow) q150a q150c (g := (mkF m 72 #[.val (.long p1), .second, .val (.long p2), .second, .val (.long p3), .second, .val (.int p4), .val (.ref b1), .val (.ref b10), .val (.int md), .unset, .unset, .unset] [(.ref b10), (.ref b1)])) rfl (by rw [hml]; rfl) (Steps.refl _) (argsL := [(.ref b10)]) (rest := []) (lenOf pd_27 rfl) rfl (by show 2 * 0 + _ ≤ _; exact Nat.le_of_eq rfl) (hb hby at_72) (fun _ _ => ⟨rfl, rfl, (by decide : 2 + 11 ≤ _), (by decide : 4 + 2845 ≤ _)⟩)
        dsimp only [Pt.U, Pt.locs, Pt.cells, Pt.slots] at X150 l150 y150 z150 st150 hQ150 hS150 hG150
        subst y150 z150
        obtain ⟨X150, hSi, hZ, hown⟩ := rebS hSi kz X150 hS150 hG150 hZ hown
        have hTK := Vm.MethodsKnown.alikeC hSi.1.alike hTK0
        have hBelow := Vm.FramesKnown.alikeC hSi.1.alike hBelow0
        have kz : T150.heap.size ≤ T150.heap.size := Nat.le_refl _
        obtain ⟨bd_150, rfl, Nq150, K150, p150_1, p150_2, p150_3⟩ := hQ150
        have N151 : Fr n0 L150 := by rw [l150]; exact Fr.app N139 Nq150
        have J152 : ∀ t, Steps p.tables e below (T150.setTop (mkF m 75 #[.val (.long p1), .second, .val (.long p2), .second, .val (.long p3), .second, .val (.int p4), .val (.ref b1), .val (.ref b10), .val (.int md), .unset, .unset, .unset] [(.ref b1)])) t → Steps p.tables e below (s₁.setTop (entryFrame m #[(.long p1), (.long p2), (.long p3), (.int p4)] maxLocals)) t := fun t k => J142 t (st150.trans k)
        have Z153 : n0 ≤ T150.heap.size := Nat.le_trans Z141 K150.1
        have J154 : ∀ t, Steps p.tables e below (T150.setTop (mkF m 79 #[.val (.long p1), .second, .val (.long p2), .second, .val (.long p3), .second, .val (.int p4), .val (.ref b1), .val (.ref b10), .val (.int md), .unset, .unset, .unset] [(.long p1), (.ref b1)])) t → Steps p.tables e below (s₁.setTop (entryFrame m #[(.long p1), (.long p2), (.long p3), (.int p4)] maxLocals)) t := fun t k => J152 t (by
            show Steps p.tables e below (T150.setTop (mkF m 75 #[.val (.long p1), .second, .val (.long p2), .second, .val (.long p3), .second, .val (.int p4), .val (.ref b1), .val (.ref b10), .val (.int md), .unset, .unset, .unset] [(.ref b1)])) _
            refine XS.pop X150.here hx rfl (hb hby at_75) rfl rfl ?_
            show Steps p.tables e below (T150.setTop (mkF m 76 #[.val (.long p1), .second, .val (.long p2), .second, .val (.long p3), .second, .val (.int p4), .val (.ref b1), .val (.ref b10), .val (.int md), .unset, .unset, .unset] [])) _
            refine XS.aload X150.here hx rfl (hb hby at_76) rfl rfl ?_
            show Steps p.tables e below (T150.setTop (mkF m 78 #[.val (.long p1), .second, .val (.long p2), .second, .val (.long p3), .second, .val (.int p4), .val (.ref b1), .val (.ref b10), .val (.int md), .unset, .unset, .unset] [(.ref b1)])) _
            refine XS.lloadN X150.here hx rfl (hb hby at_78) rfl ?_
            exact k)
        obtain ⟨cq155, kq155, q155a, q155b, q155c⟩ := isOf hZ rfl p150_1
        obtain ⟨_, _, ⟨T155, L155, k155, n155⟩, -, X155, ⟨Lc155, hQ155, l155, y155, z155⟩, st155⟩ := X150.virtualBack hx (y := (⟨"com/example/tranche/tranche/model/Amount", "set", "(J)Lcom/example/tranche/tranche/model/Amount;"⟩ : MethodName)) (z := (⟨"com/example/tranche/tranche/model/Amount", "set", "(J)Lcom/example/tranche/tranche/model/Amount;"⟩ : MethodName)) hown (mvT hZ (hw _ (List.mem_of_getElem? (i := 10) rfl))) (mvT hZ (hw _ (List.mem_of_getElem? (i := 11) rfl))) (notFace_of_selects (args := #[]) (mvT hZ (hw _ (List.mem_of_getElem? (i := 13) rfl)))) (mvT hZ (hw _ (List.mem_of_getElem? (i := 13) rfl))) (mvT hZ (hw _ (List.mem_of_getElem? (i := 12) rfl))) (by decide) (backOf (W := 0) (rm3 l Z a0 hw [] b1 p1 (.long (9223372036854775807 : Int64)) (.ref bd_150) T150.heap n0 Z153 p150_1 ge3 p150_2 p150_3) hZ (hw _ (List.mem_of_getElem? (i := 14) rfl)) (hw _ (List.mem_of_getElem? (i := 2) rfl)) (by decide) (by decide)) q155a q155c (g := (mkF m 79 #[.val (.long p1), .second, .val (.long p2), .second, .val (.long p3), .second, .val (.int p4), .val (.ref b1), .val (.ref b10), .val (.int md), .unset, .unset, .unset] [(.long p1), (.ref b1)])) rfl (by rw [hml]; rfl) (Steps.refl _) (argsL := [(.long p1)]) (rest := []) (lenOf pd_23 rfl) rfl (by show 2 * 0 + _ ≤ _; exact Nat.le_of_eq rfl) (hb hby at_79) (fun _ _ => ⟨rfl, rfl, (by decide : 13 + 0 ≤ _), (by decide : 2849 + 0 ≤ _)⟩)
        dsimp only [Pt.U, Pt.locs, Pt.cells, Pt.slots] at X155 l155 y155 z155 st155 hQ155
        subst y155 z155
        obtain ⟨rfl, Nq155, K155, p155_1, p155_2, p155_3⟩ := hQ155
        have N156 : Fr n0 L155 := by rw [l155]; exact Fr.app N151 Nq155
        have J157 : ∀ t, Steps p.tables e below (T155.setTop (mkF m 82 #[.val (.long p1), .second, .val (.long p2), .second, .val (.long p3), .second, .val (.int p4), .val (.ref b1), .val (.ref b10), .val (.int md), .unset, .unset, .unset] [(.ref b1)])) t → Steps p.tables e below (s₁.setTop (entryFrame m #[(.long p1), (.long p2), (.long p3), (.int p4)] maxLocals)) t := fun t k => J154 t (st155.trans k)
        have Z158 : n0 ≤ T155.heap.size := Nat.le_trans Z153 K155.1
        have kz := Nat.le_trans kz K155.1
        have J159 : ∀ t, Steps p.tables e below (T155.setTop (mkF m 88 #[.val (.long p1), .second, .val (.long p2), .second, .val (.long p3), .second, .val (.int p4), .val (.ref b1), .val (.ref b10), .val (.int md), .val (.ref b1), .unset, .unset] [(.long p3), (.ref b10)])) t → Steps p.tables e below (s₁.setTop (entryFrame m #[(.long p1), (.long p2), (.long p3), (.int p4)] maxLocals)) t := fun t k => J157 t (by
            show Steps p.tables e below (T155.setTop (mkF m 82 #[.val (.long p1), .second, .val (.long p2), .second, .val (.long p3), .second, .val (.int p4), .val (.ref b1), .val (.ref b10), .val (.int md), .unset, .unset, .unset] [(.ref b1)])) _
            refine XS.astore X155.here hx rfl (hb hby at_82) rfl rfl (l' := #[.val (.long p1), .second, .val (.long p2), .second, .val (.long p3), .second, .val (.int p4), .val (.ref b1), .val (.ref b10), .val (.int md), .val (.ref b1), .unset, .unset]) rfl ?_
            show Steps p.tables e below (T155.setTop (mkF m 84 #[.val (.long p1), .second, .val (.long p2), .second, .val (.long p3), .second, .val (.int p4), .val (.ref b1), .val (.ref b10), .val (.int md), .val (.ref b1), .unset, .unset] [])) _
            refine XS.aload X155.here hx rfl (hb hby at_84) rfl rfl ?_
            show Steps p.tables e below (T155.setTop (mkF m 86 #[.val (.long p1), .second, .val (.long p2), .second, .val (.long p3), .second, .val (.int p4), .val (.ref b1), .val (.ref b10), .val (.int md), .val (.ref b1), .unset, .unset] [(.ref b10)])) _
            refine XS.lload X155.here hx rfl (hb hby at_86) rfl ?_
            exact k)
        have f160 := p138_1.keep K150
        have f161 := f160.keep K155
        have f162 := p138_2.keep K150 (ninS (Ne.symm ne12) nin0)
        have f163 := f162.keep K155 (ninS (Ne.symm ne12) nin0)
        have f164 := p138_3.keep K150 (ninS (Ne.symm ne12) nin0)
        have f165 := f164.keep K155 (ninS (Ne.symm ne12) nin0)
        obtain ⟨cq166, kq166, q166a, q166b, q166c⟩ := isOf hZ rfl f161
        obtain ⟨_, _, ⟨T166, L166, k166, n166⟩, -, X166, ⟨Lc166, hQ166, l166, y166, z166⟩, st166⟩ := X155.virtualBack hx (y := (⟨"com/example/tranche/tranche/model/Amount", "set", "(J)Lcom/example/tranche/tranche/model/Amount;"⟩ : MethodName)) (z := (⟨"com/example/tranche/tranche/model/Amount", "set", "(J)Lcom/example/tranche/tranche/model/Amount;"⟩ : MethodName)) hown (mvT hZ (hw _ (List.mem_of_getElem? (i := 10) rfl))) (mvT hZ (hw _ (List.mem_of_getElem? (i := 11) rfl))) (notFace_of_selects (args := #[]) (mvT hZ (hw _ (List.mem_of_getElem? (i := 13) rfl)))) (mvT hZ (hw _ (List.mem_of_getElem? (i := 13) rfl))) (mvT hZ (hw _ (List.mem_of_getElem? (i := 12) rfl))) (by decide) (backOf (W := 0) (rm3 l Z a0 hw [] b10 p3 (.long (1 : Int64)) .null T155.heap n0 Z158 f161 ge13 f163 f165) hZ (hw _ (List.mem_of_getElem? (i := 14) rfl)) (hw _ (List.mem_of_getElem? (i := 2) rfl)) (by decide) (by decide)) q166a q166c (g := (mkF m 88 #[.val (.long p1), .second, .val (.long p2), .second, .val (.long p3), .second, .val (.int p4), .val (.ref b1), .val (.ref b10), .val (.int md), .val (.ref b1), .unset, .unset] [(.long p3), (.ref b10)])) rfl (by rw [hml]; rfl) (Steps.refl _) (argsL := [(.long p3)]) (rest := []) (lenOf pd_23 rfl) rfl (by show 2 * 0 + _ ≤ _; exact Nat.le_of_eq rfl) (hb hby at_88) (fun _ _ => ⟨rfl, rfl, (by decide : 13 + 0 ≤ _), (by decide : 2849 + 0 ≤ _)⟩)
        dsimp only [Pt.U, Pt.locs, Pt.cells, Pt.slots] at X166 l166 y166 z166 st166 hQ166
        subst y166 z166
        obtain ⟨rfl, Nq166, K166, p166_1, p166_2, p166_3⟩ := hQ166
        have N167 : Fr n0 L166 := by rw [l166]; exact Fr.app N156 Nq166
        have J168 : ∀ t, Steps p.tables e below (T166.setTop (mkF m 91 #[.val (.long p1), .second, .val (.long p2), .second, .val (.long p3), .second, .val (.int p4), .val (.ref b1), .val (.ref b10), .val (.int md), .val (.ref b1), .unset, .unset] [(.ref b10)])) t → Steps p.tables e below (s₁.setTop (entryFrame m #[(.long p1), (.long p2), (.long p3), (.int p4)] maxLocals)) t := fun t k => J159 t (st166.trans k)
        have Z169 : n0 ≤ T166.heap.size := Nat.le_trans Z158 K166.1
        have kz := Nat.le_trans kz K166.1
        have J170 : ∀ t, Steps p.tables e below (T166.setTop (mkF m 103 #[.val (.long p1), .second, .val (.long p2), .second, .val (.long p3), .second, .val (.int p4), .val (.ref b1), .val (.ref b10), .val (.int md), .val (.ref b1), .unset, .unset] [(.ref b1)])) t → Steps p.tables e below (s₁.setTop (entryFrame m #[(.long p1), (.long p2), (.long p3), (.int p4)] maxLocals)) t := fun t k => J168 t (by
            show Steps p.tables e below (T166.setTop (mkF m 91 #[.val (.long p1), .second, .val (.long p2), .second, .val (.long p3), .second, .val (.int p4), .val (.ref b1), .val (.ref b10), .val (.int md), .val (.ref b1), .unset, .unset] [(.ref b10)])) _
            refine XS.pop X166.here hx rfl (hb hby at_91) rfl rfl ?_
            show Steps p.tables e below (T166.setTop (mkF m 92 #[.val (.long p1), .second, .val (.long p2), .second, .val (.long p3), .second, .val (.int p4), .val (.ref b1), .val (.ref b10), .val (.int md), .val (.ref b1), .unset, .unset] [])) _
            refine XS.aload X166.here hx rfl (hb hby at_92) rfl rfl ?_
            show Steps p.tables e below (T166.setTop (mkF m 94 #[.val (.long p1), .second, .val (.long p2), .second, .val (.long p3), .second, .val (.int p4), .val (.ref b1), .val (.ref b10), .val (.int md), .val (.ref b1), .unset, .unset] [(.ref b1)])) _
            refine XS.aload X166.here hx rfl (hb hby at_94) rfl rfl ?_
            show Steps p.tables e below (T166.setTop (mkF m 96 #[.val (.long p1), .second, .val (.long p2), .second, .val (.long p3), .second, .val (.int p4), .val (.ref b1), .val (.ref b10), .val (.int md), .val (.ref b1), .unset, .unset] [(.ref b1), (.ref b1)])) _
            refine Jvm.RoadKit.acmp (g := (mkF m 96 #[.val (.long p1), .second, .val (.long p2), .second, .val (.long p3), .second, .val (.int p4), .val (.ref b1), .val (.ref b10), .val (.int md), .val (.ref b1), .unset, .unset] [(.ref b1), (.ref b1)])) X166 hx rfl rfl rfl (pc0 := 96) (pc' := 101) (same := true) rfl (hb hby at_96) rfl (decide_eq_true rfl) (by decide) (by decide) ?_
            show Steps p.tables e below (T166.setTop (mkF m 101 #[.val (.long p1), .second, .val (.long p2), .second, .val (.long p3), .second, .val (.int p4), .val (.ref b1), .val (.ref b10), .val (.int md), .val (.ref b1), .unset, .unset] [])) _
            refine XS.aload X166.here hx rfl (hb hby at_101) rfl rfl ?_
            exact k)
        have f171 := p155_1.keep K166
        have f172 := p155_3.keep K166 (ninS ne12 nin0)
        obtain ⟨cq173, kq173, q173a, q173b, q173c⟩ := isOf hZ rfl f171
        obtain ⟨_, _, ⟨T173, L173, k173, n173⟩, -, X173, ⟨Lc173, hQ173, l173, y173, z173⟩, st173⟩ := X166.virtualBack hx (y := (⟨"com/example/tranche/tranche/model/Amount", "inCents", "()Z"⟩ : MethodName)) (z := (⟨"com/example/tranche/tranche/model/Amount", "inCents", "()Z"⟩ : MethodName)) hown (mvT hZ (hw _ (List.mem_of_getElem? (i := 231) rfl))) (mvT hZ (hw _ (List.mem_of_getElem? (i := 232) rfl))) (notFace_of_selects (args := #[]) (mvT hZ (hw _ (List.mem_of_getElem? (i := 234) rfl)))) (mvT hZ (hw _ (List.mem_of_getElem? (i := 234) rfl))) (mvT hZ (hw _ (List.mem_of_getElem? (i := 233) rfl))) (by decide) (backOf (W := 0) (rm37 l Z a0 hw [] b1 T166.heap n0 Z169 f172) hZ (hw _ (List.mem_of_getElem? (i := 235) rfl)) (hw _ (List.mem_of_getElem? (i := 2) rfl)) (by decide) (by decide)) q173a q173c (g := (mkF m 103 #[.val (.long p1), .second, .val (.long p2), .second, .val (.long p3), .second, .val (.int p4), .val (.ref b1), .val (.ref b10), .val (.int md), .val (.ref b1), .unset, .unset] [(.ref b1)])) rfl (by rw [hml]; rfl) (Steps.refl _) (argsL := []) (rest := []) (lenOf pd_24 rfl) rfl (by show 2 * 0 + _ ≤ _; exact Nat.le_of_eq rfl) (hb hby at_103) (fun _ _ => ⟨rfl, rfl, (by decide : 13 + 0 ≤ _), (by decide : 2849 + 0 ≤ _)⟩)
        dsimp only [Pt.U, Pt.locs, Pt.cells, Pt.slots] at X173 l173 y173 z173 st173 hQ173
        subst y173 z173
        obtain ⟨rfl, Nq173, e173⟩ := hQ173
        have N174 : Fr n0 L173 := by rw [l173]; exact Fr.app N167 Nq173
        have J175 : ∀ t, Steps p.tables e below (T173.setTop (mkF m 106 #[.val (.long p1), .second, .val (.long p2), .second, .val (.long p3), .second, .val (.int p4), .val (.ref b1), .val (.ref b10), .val (.int md), .val (.ref b1), .unset, .unset] [(.int (1 : Int32))])) t → Steps p.tables e below (s₁.setTop (entryFrame m #[(.long p1), (.long p2), (.long p3), (.int p4)] maxLocals)) t := fun t k => J170 t (st173.trans k)
        have J176 : ∀ t, Steps p.tables e below (T173.setTop (mkF m 113 #[.val (.long p1), .second, .val (.long p2), .second, .val (.long p3), .second, .val (.int p4), .val (.ref b1), .val (.ref b10), .val (.int md), .val (.ref b1), .unset, .unset] [(.ref b1)])) t → Steps p.tables e below (s₁.setTop (entryFrame m #[(.long p1), (.long p2), (.long p3), (.int p4)] maxLocals)) t := fun t k => J175 t (by
            show Steps p.tables e below (T173.setTop (mkF m 106 #[.val (.long p1), .second, .val (.long p2), .second, .val (.long p3), .second, .val (.int p4), .val (.ref b1), .val (.ref b10), .val (.int md), .val (.ref b1), .unset, .unset] [(.int (1 : Int32))])) _
            refine XS.ifYes X173.here hx rfl (pc0 := 106) (pc' := 111) rfl (hb hby at_106) rfl ((if0 _ _).trans (feq (by decide)).2) (by decide) (by decide) ?_
            show Steps p.tables e below (T173.setTop (mkF m 111 #[.val (.long p1), .second, .val (.long p2), .second, .val (.long p3), .second, .val (.int p4), .val (.ref b1), .val (.ref b10), .val (.int md), .val (.ref b1), .unset, .unset] [])) _
            refine XS.aload X173.here hx rfl (hb hby at_111) rfl rfl ?_
            exact k)
        have f177 := p155_2.keep K166 (ninS ne12 nin0)
        obtain ⟨cq178, kq178, q178a, q178b, q178c⟩ := isOf hZ e173 f171
        obtain ⟨_, _, ⟨T178, L178, k178, n178⟩, -, X178, ⟨Lc178, hQ178, l178, y178, z178⟩, st178⟩ := X173.virtualBack hx (y := (⟨"com/example/tranche/tranche/model/Amount", "cents", "()J"⟩ : MethodName)) (z := (⟨"com/example/tranche/tranche/model/Amount", "cents", "()J"⟩ : MethodName)) hown (mvT hZ (hw _ (List.mem_of_getElem? (i := 236) rfl))) (mvT hZ (hw _ (List.mem_of_getElem? (i := 237) rfl))) (notFace_of_selects (args := #[]) (mvT hZ (hw _ (List.mem_of_getElem? (i := 239) rfl)))) (mvT hZ (hw _ (List.mem_of_getElem? (i := 239) rfl))) (mvT hZ (hw _ (List.mem_of_getElem? (i := 238) rfl))) (by decide) (backOf (W := 0) (rm38 l Z a0 hw [] b1 p1 T166.heap n0 Z169 f177 f172) hZ (hw _ (List.mem_of_getElem? (i := 240) rfl)) (hw _ (List.mem_of_getElem? (i := 2) rfl)) (by decide) (by decide)) q178a q178c (g := (mkF m 113 #[.val (.long p1), .second, .val (.long p2), .second, .val (.long p3), .second, .val (.int p4), .val (.ref b1), .val (.ref b10), .val (.int md), .val (.ref b1), .unset, .unset] [(.ref b1)])) rfl (by rw [hml]; rfl) (Steps.refl _) (argsL := []) (rest := []) (lenOf pd_25 rfl) rfl (by show 2 * 0 + _ ≤ _; exact Nat.le_of_eq rfl) (hb hby at_113) (fun _ _ => ⟨rfl, e173, (by decide : 13 + 0 ≤ _), (by decide : 2849 + 0 ≤ _)⟩)
        dsimp only [Pt.U, Pt.locs, Pt.cells, Pt.slots] at X178 l178 y178 z178 st178 hQ178
        subst y178 z178
        obtain ⟨rfl, Nq178, e178⟩ := hQ178
        have N179 : Fr n0 L178 := by rw [l178]; exact Fr.app N174 Nq178
        have J180 : ∀ t, Steps p.tables e below (T178.setTop (mkF m 116 #[.val (.long p1), .second, .val (.long p2), .second, .val (.long p3), .second, .val (.int p4), .val (.ref b1), .val (.ref b10), .val (.int md), .val (.ref b1), .unset, .unset] [(.long p1)])) t → Steps p.tables e below (s₁.setTop (entryFrame m #[(.long p1), (.long p2), (.long p3), (.int p4)] maxLocals)) t := fun t k => J176 t (st178.trans k)
        have J181 : ∀ t, Steps p.tables e below (T178.setTop (mkF m 123 #[.val (.long p1), .second, .val (.long p2), .second, .val (.long p3), .second, .val (.int p4), .val (.ref b1), .val (.ref b10), .val (.int md), .val (.ref b1), .unset, .unset] [])) t → Steps p.tables e below (s₁.setTop (entryFrame m #[(.long p1), (.long p2), (.long p3), (.int p4)] maxLocals)) t := fun t k => J180 t (by
            show Steps p.tables e below (T178.setTop (mkF m 116 #[.val (.long p1), .second, .val (.long p2), .second, .val (.long p3), .second, .val (.int p4), .val (.ref b1), .val (.ref b10), .val (.int md), .val (.ref b1), .unset, .unset] [(.long p1)])) _
            refine XS.lloadN X178.here hx rfl (hb hby at_116) rfl ?_
            show Steps p.tables e below (T178.setTop (mkF m 117 #[.val (.long p1), .second, .val (.long p2), .second, .val (.long p3), .second, .val (.int p4), .val (.ref b1), .val (.ref b10), .val (.int md), .val (.ref b1), .unset, .unset] [(.long p1), (.long p1)])) _
            refine XS.lcmp X178.here hx rfl (hb hby at_117) rfl ?_
            show Steps p.tables e below (T178.setTop (mkF m 118 #[.val (.long p1), .second, .val (.long p2), .second, .val (.long p3), .second, .val (.int p4), .val (.ref b1), .val (.ref b10), .val (.int md), .val (.ref b1), .unset, .unset] [(.int (lcmpW p1 p1))])) _
            refine XS.ifYes X178.here hx rfl (pc0 := 118) (pc' := 123) rfl (hb hby at_118) rfl ((if0 _ _).trans (teq (own_l3 p1)).1) (by decide) (by decide) ?_
            exact k)
        obtain ⟨sv, hsv⟩ : ∃ z : Int32, z = (if (0 : Int32) < (lcmpW p1 (0 : Int64)) then (1 : Int32) else (if (lcmpW p1 (0 : Int64)) < (0 : Int32) then (-1 : Int32) else (0 : Int32))) := ⟨_, rfl⟩
        have ps182 : ∀ t, Steps p.tables e below (T178.setTop (mkF m 144 #[.val (.long p1), .second, .val (.long p2), .second, .val (.long p3), .second, .val (.int p4), .val (.ref b1), .val (.ref b10), .val (.int md), .val (.ref b1), .unset, .unset] [(.int sv)])) t → Steps p.tables e below (T178.setTop (mkF m 123 #[.val (.long p1), .second, .val (.long p2), .second, .val (.long p3), .second, .val (.int p4), .val (.ref b1), .val (.ref b10), .val (.int md), .val (.ref b1), .unset, .unset] [])) t := by
          intro t k
          show Steps p.tables e below (T178.setTop (mkF m 123 #[.val (.long p1), .second, .val (.long p2), .second, .val (.long p3), .second, .val (.int p4), .val (.ref b1), .val (.ref b10), .val (.int md), .val (.ref b1), .unset, .unset] [])) _
          refine XS.lloadN X178.here hx rfl (hb hby at_123) rfl ?_
          show Steps p.tables e below (T178.setTop (mkF m 124 #[.val (.long p1), .second, .val (.long p2), .second, .val (.long p3), .second, .val (.int p4), .val (.ref b1), .val (.ref b10), .val (.int md), .val (.ref b1), .unset, .unset] [(.long p1)])) _
          refine XS.lconst X178.here hx rfl (hb hby at_124) ?_
          show Steps p.tables e below (T178.setTop (mkF m 125 #[.val (.long p1), .second, .val (.long p2), .second, .val (.long p3), .second, .val (.int p4), .val (.ref b1), .val (.ref b10), .val (.int md), .val (.ref b1), .unset, .unset] [(.long (0 : Int64)), (.long p1)])) _
          refine XS.lcmp X178.here hx rfl (hb hby at_125) rfl ?_
          by_cases hm126_0 : (0 : Int32) < (lcmpW p1 (0 : Int64))
          ·
            show Steps p.tables e below (T178.setTop (mkF m 126 #[.val (.long p1), .second, .val (.long p2), .second, .val (.long p3), .second, .val (.int p4), .val (.ref b1), .val (.ref b10), .val (.int md), .val (.ref b1), .unset, .unset] [(.int (lcmpW p1 (0 : Int64)))])) _
            refine XS.ifNo X178.here hx rfl (hb hby at_126) rfl ((if0 _ _).trans (tlt hm126_0).2.2.2) ?_
            show Steps p.tables e below (T178.setTop (mkF m 129 #[.val (.long p1), .second, .val (.long p2), .second, .val (.long p3), .second, .val (.int p4), .val (.ref b1), .val (.ref b10), .val (.int md), .val (.ref b1), .unset, .unset] [])) _
            refine XS.iconst X178.here hx rfl (hb hby at_129) ?_
            show Steps p.tables e below (T178.setTop (mkF m 130 #[.val (.long p1), .second, .val (.long p2), .second, .val (.long p3), .second, .val (.int p4), .val (.ref b1), .val (.ref b10), .val (.int md), .val (.ref b1), .unset, .unset] [(.int (1 : Int32))])) _
            refine XS.goto X178.here hx rfl (pc0 := 130) (pc' := 144) rfl (hb hby at_130) (by decide) (by decide) ?_
            have qsv : sv = (1 : Int32) := by rw [hsv]; first | (simp only [hm126_0, if_true, if_false, reduceIte]; done) | simp [hm126_0]
            rw [qsv] at k
            exact k
          ·
            show Steps p.tables e below (T178.setTop (mkF m 126 #[.val (.long p1), .second, .val (.long p2), .second, .val (.long p3), .second, .val (.int p4), .val (.ref b1), .val (.ref b10), .val (.int md), .val (.ref b1), .unset, .unset] [(.int (lcmpW p1 (0 : Int64)))])) _
            refine XS.ifYes X178.here hx rfl (pc0 := 126) (pc' := 133) rfl (hb hby at_126) rfl ((if0 _ _).trans (flt hm126_0).2.2.2) (by decide) (by decide) ?_
            show Steps p.tables e below (T178.setTop (mkF m 133 #[.val (.long p1), .second, .val (.long p2), .second, .val (.long p3), .second, .val (.int p4), .val (.ref b1), .val (.ref b10), .val (.int md), .val (.ref b1), .unset, .unset] [])) _
            refine XS.lloadN X178.here hx rfl (hb hby at_133) rfl ?_
            show Steps p.tables e below (T178.setTop (mkF m 134 #[.val (.long p1), .second, .val (.long p2), .second, .val (.long p3), .second, .val (.int p4), .val (.ref b1), .val (.ref b10), .val (.int md), .val (.ref b1), .unset, .unset] [(.long p1)])) _
            refine XS.lconst X178.here hx rfl (hb hby at_134) ?_
            show Steps p.tables e below (T178.setTop (mkF m 135 #[.val (.long p1), .second, .val (.long p2), .second, .val (.long p3), .second, .val (.int p4), .val (.ref b1), .val (.ref b10), .val (.int md), .val (.ref b1), .unset, .unset] [(.long (0 : Int64)), (.long p1)])) _
            refine XS.lcmp X178.here hx rfl (hb hby at_135) rfl ?_
            by_cases hm136_1 : (lcmpW p1 (0 : Int64)) < (0 : Int32)
            ·
              show Steps p.tables e below (T178.setTop (mkF m 136 #[.val (.long p1), .second, .val (.long p2), .second, .val (.long p3), .second, .val (.int p4), .val (.ref b1), .val (.ref b10), .val (.int md), .val (.ref b1), .unset, .unset] [(.int (lcmpW p1 (0 : Int64)))])) _
              refine XS.ifNo X178.here hx rfl (hb hby at_136) rfl ((if0 _ _).trans (tlt hm136_1).2.1) ?_
              show Steps p.tables e below (T178.setTop (mkF m 139 #[.val (.long p1), .second, .val (.long p2), .second, .val (.long p3), .second, .val (.int p4), .val (.ref b1), .val (.ref b10), .val (.int md), .val (.ref b1), .unset, .unset] [])) _
              refine XS.iconst X178.here hx rfl (hb hby at_139) ?_
              show Steps p.tables e below (T178.setTop (mkF m 140 #[.val (.long p1), .second, .val (.long p2), .second, .val (.long p3), .second, .val (.int p4), .val (.ref b1), .val (.ref b10), .val (.int md), .val (.ref b1), .unset, .unset] [(.int (-1 : Int32))])) _
              refine XS.goto X178.here hx rfl (pc0 := 140) (pc' := 144) rfl (hb hby at_140) (by decide) (by decide) ?_
              have qsv : sv = (-1 : Int32) := by rw [hsv]; first | (simp only [hm126_0, hm136_1, if_true, if_false, reduceIte]; done) | simp [hm126_0, hm136_1]
              rw [qsv] at k
              exact k
            ·
              show Steps p.tables e below (T178.setTop (mkF m 136 #[.val (.long p1), .second, .val (.long p2), .second, .val (.long p3), .second, .val (.int p4), .val (.ref b1), .val (.ref b10), .val (.int md), .val (.ref b1), .unset, .unset] [(.int (lcmpW p1 (0 : Int64)))])) _
              refine XS.ifYes X178.here hx rfl (pc0 := 136) (pc' := 143) rfl (hb hby at_136) rfl ((if0 _ _).trans (flt hm136_1).2.1) (by decide) (by decide) ?_
              show Steps p.tables e below (T178.setTop (mkF m 143 #[.val (.long p1), .second, .val (.long p2), .second, .val (.long p3), .second, .val (.int p4), .val (.ref b1), .val (.ref b10), .val (.int md), .val (.ref b1), .unset, .unset] [])) _
              refine XS.iconst X178.here hx rfl (hb hby at_143) ?_
              have qsv : sv = (0 : Int32) := by rw [hsv]; first | (simp only [hm126_0, hm136_1, if_true, if_false, reduceIte]; done) | simp [hm126_0, hm136_1]
              rw [qsv] at k
              exact k
        have J183 : ∀ t, Steps p.tables e below (T178.setTop (mkF m 144 #[.val (.long p1), .second, .val (.long p2), .second, .val (.long p3), .second, .val (.int p4), .val (.ref b1), .val (.ref b10), .val (.int md), .val (.ref b1), .unset, .unset] [(.int sv)])) t → Steps p.tables e below (s₁.setTop (entryFrame m #[(.long p1), (.long p2), (.long p3), (.int p4)] maxLocals)) t := fun t k => J181 t (ps182 t k)
        have J184 : ∀ t, Steps p.tables e below (T178.setTop (mkF m 148 #[.val (.long p1), .second, .val (.long p2), .second, .val (.long p3), .second, .val (.int p4), .val (.ref b1), .val (.ref b10), .val (.int md), .val (.ref b1), .val (.int sv), .unset] [(.ref b1)])) t → Steps p.tables e below (s₁.setTop (entryFrame m #[(.long p1), (.long p2), (.long p3), (.int p4)] maxLocals)) t := fun t k => J183 t (by
            show Steps p.tables e below (T178.setTop (mkF m 144 #[.val (.long p1), .second, .val (.long p2), .second, .val (.long p3), .second, .val (.int p4), .val (.ref b1), .val (.ref b10), .val (.int md), .val (.ref b1), .unset, .unset] [(.int sv)])) _
            refine XS.istore X178.here hx rfl (hb hby at_144) rfl (l' := #[.val (.long p1), .second, .val (.long p2), .second, .val (.long p3), .second, .val (.int p4), .val (.ref b1), .val (.ref b10), .val (.int md), .val (.ref b1), .val (.int sv), .unset]) rfl ?_
            show Steps p.tables e below (T178.setTop (mkF m 146 #[.val (.long p1), .second, .val (.long p2), .second, .val (.long p3), .second, .val (.int p4), .val (.ref b1), .val (.ref b10), .val (.int md), .val (.ref b1), .val (.int sv), .unset] [])) _
            refine XS.aload X178.here hx rfl (hb hby at_146) rfl rfl ?_
            exact k)
        obtain ⟨cq185, kq185, q185a, q185b, q185c⟩ := isOf hZ e178 f171
        obtain ⟨_, _, ⟨T185, L185, k185, n185⟩, -, X185, ⟨Lc185, hQ185, l185, y185, z185⟩, st185⟩ := X178.virtualBack hx (y := (⟨"com/example/tranche/tranche/model/Amount", "signum", "()I"⟩ : MethodName)) (z := (⟨"com/example/tranche/tranche/model/Amount", "signum", "()I"⟩ : MethodName)) hown (mvT hZ (hw _ (List.mem_of_getElem? (i := 241) rfl))) (mvT hZ (hw _ (List.mem_of_getElem? (i := 242) rfl))) (notFace_of_selects (args := #[]) (mvT hZ (hw _ (List.mem_of_getElem? (i := 244) rfl)))) (mvT hZ (hw _ (List.mem_of_getElem? (i := 244) rfl))) (mvT hZ (hw _ (List.mem_of_getElem? (i := 243) rfl))) (by decide) (backOf (W := 0) (rm39 l Z a0 hw [] b1 p1 T166.heap n0 Z169 f177 f172) hZ (hw _ (List.mem_of_getElem? (i := 245) rfl)) (hw _ (List.mem_of_getElem? (i := 2) rfl)) (by decide) (by decide)) q185a q185c (g := (mkF m 148 #[.val (.long p1), .second, .val (.long p2), .second, .val (.long p3), .second, .val (.int p4), .val (.ref b1), .val (.ref b10), .val (.int md), .val (.ref b1), .val (.int sv), .unset] [(.ref b1)])) rfl (by rw [hml]; rfl) (Steps.refl _) (argsL := []) (rest := []) (lenOf pd_18 rfl) rfl (by show 2 * 0 + _ ≤ _; exact Nat.le_of_eq rfl) (hb hby at_148) (fun _ _ => ⟨rfl, e178, (by decide : 13 + 0 ≤ _), (by decide : 2849 + 0 ≤ _)⟩)
        dsimp only [Pt.U, Pt.locs, Pt.cells, Pt.slots] at X185 l185 y185 z185 st185 hQ185
        subst y185 z185
        obtain ⟨rfl, Nq185, e185⟩ := hQ185
        have N186 : Fr n0 L185 := by rw [l185]; exact Fr.app N179 Nq185
        have J187 : ∀ t, Steps p.tables e below (T185.setTop (mkF m 151 #[.val (.long p1), .second, .val (.long p2), .second, .val (.long p3), .second, .val (.int p4), .val (.ref b1), .val (.ref b10), .val (.int md), .val (.ref b1), .val (.int sv), .unset] [(.int (own_sg p1))])) t → Steps p.tables e below (s₁.setTop (entryFrame m #[(.long p1), (.long p2), (.long p3), (.int p4)] maxLocals)) t := fun t k => J184 t (st185.trans k)
        have J188 : ∀ t, Steps p.tables e below (T185.setTop (mkF m 162 #[.val (.long p1), .second, .val (.long p2), .second, .val (.long p3), .second, .val (.int p4), .val (.ref b1), .val (.ref b10), .val (.int md), .val (.ref b1), .val (.int sv), .unset] [(.ref b10), (.ref b1)])) t → Steps p.tables e below (s₁.setTop (entryFrame m #[(.long p1), (.long p2), (.long p3), (.int p4)] maxLocals)) t := fun t k => J187 t (by
            show Steps p.tables e below (T185.setTop (mkF m 151 #[.val (.long p1), .second, .val (.long p2), .second, .val (.long p3), .second, .val (.int p4), .val (.ref b1), .val (.ref b10), .val (.int md), .val (.ref b1), .val (.int sv), .unset] [(.int (own_sg p1))])) _
            refine XS.iload X185.here hx rfl (hb hby at_151) rfl ?_
            show Steps p.tables e below (T185.setTop (mkF m 153 #[.val (.long p1), .second, .val (.long p2), .second, .val (.long p3), .second, .val (.int p4), .val (.ref b1), .val (.ref b10), .val (.int md), .val (.ref b1), .val (.int sv), .unset] [(.int sv), (.int (own_sg p1))])) _
            refine XS.icmpYes X185.here hx rfl (pc0 := 153) (pc' := 158) rfl (hb hby at_153) rfl (teq (own_sgn p1 sv hsv)).1 (by decide) (by decide) ?_
            show Steps p.tables e below (T185.setTop (mkF m 158 #[.val (.long p1), .second, .val (.long p2), .second, .val (.long p3), .second, .val (.int p4), .val (.ref b1), .val (.ref b10), .val (.int md), .val (.ref b1), .val (.int sv), .unset] [])) _
            refine XS.aload X185.here hx rfl (hb hby at_158) rfl rfl ?_
            show Steps p.tables e below (T185.setTop (mkF m 160 #[.val (.long p1), .second, .val (.long p2), .second, .val (.long p3), .second, .val (.int p4), .val (.ref b1), .val (.ref b10), .val (.int md), .val (.ref b1), .val (.int sv), .unset] [(.ref b1)])) _
            refine XS.aload X185.here hx rfl (hb hby at_160) rfl rfl ?_
            exact k)
        obtain ⟨cq189, kq189, q189a, q189b, q189c⟩ := isOf hZ e185 f171
        obtain ⟨_, _, ⟨T189, L189, k189, n189⟩, -, X189, ⟨Lc189, hQ189, l189, y189, z189⟩, st189⟩ := X185.virtualBack hx (y := (⟨"com/example/tranche/tranche/model/Amount", "compareTo", "(Lcom/example/tranche/tranche/model/Amount;)I"⟩ : MethodName)) (z := (⟨"com/example/tranche/tranche/model/Amount", "compareTo", "(Lcom/example/tranche/tranche/model/Amount;)I"⟩ : MethodName)) hown (mvT hZ (hw _ (List.mem_of_getElem? (i := 247) rfl))) (mvT hZ (hw _ (List.mem_of_getElem? (i := 248) rfl))) (notFace_of_selects (args := #[]) (mvT hZ (hw _ (List.mem_of_getElem? (i := 250) rfl)))) (mvT hZ (hw _ (List.mem_of_getElem? (i := 250) rfl))) (mvT hZ (hw _ (List.mem_of_getElem? (i := 249) rfl))) (by decide) (backOf (W := 0) (rm40 l Z a0 hw [] b1 b10 p1 p3 T166.heap n0 Z169 f177 f172 p166_2 p166_3) hZ (hw _ (List.mem_of_getElem? (i := 251) rfl)) (hw _ (List.mem_of_getElem? (i := 2) rfl)) (by decide) (by decide)) q189a q189c (g := (mkF m 162 #[.val (.long p1), .second, .val (.long p2), .second, .val (.long p3), .second, .val (.int p4), .val (.ref b1), .val (.ref b10), .val (.int md), .val (.ref b1), .val (.int sv), .unset] [(.ref b10), (.ref b1)])) rfl (by rw [hml]; rfl) (Steps.refl _) (argsL := [(.ref b10)]) (rest := []) (lenOf pd_26 rfl) rfl (by show 2 * 0 + _ ≤ _; exact Nat.le_of_eq rfl) (hb hby at_162) (fun _ _ => ⟨rfl, e185, (by decide : 13 + 0 ≤ _), (by decide : 2849 + 0 ≤ _)⟩)
        dsimp only [Pt.U, Pt.locs, Pt.cells, Pt.slots] at X189 l189 y189 z189 st189 hQ189
        subst y189 z189
        obtain ⟨rfl, Nq189, e189⟩ := hQ189
        have N190 : Fr n0 L189 := by rw [l189]; exact Fr.app N186 Nq189
        have J191 : ∀ t, Steps p.tables e below (T189.setTop (mkF m 165 #[.val (.long p1), .second, .val (.long p2), .second, .val (.long p3), .second, .val (.int p4), .val (.ref b1), .val (.ref b10), .val (.int md), .val (.ref b1), .val (.int sv), .unset] [(.int (own_cmp p1 p3))])) t → Steps p.tables e below (s₁.setTop (entryFrame m #[(.long p1), (.long p2), (.long p3), (.int p4)] maxLocals)) t := fun t k => J188 t (st189.trans k)
        have J192 : ∀ t, Steps p.tables e below (T189.setTop (mkF m 171 #[.val (.long p1), .second, .val (.long p2), .second, .val (.long p3), .second, .val (.int p4), .val (.ref b1), .val (.ref b10), .val (.int md), .val (.ref b1), .val (.int sv), .val (.int (own_cmp p1 p3))] [(.int (lcmpW p1 p3))])) t → Steps p.tables e below (s₁.setTop (entryFrame m #[(.long p1), (.long p2), (.long p3), (.int p4)] maxLocals)) t := fun t k => J191 t (by
            show Steps p.tables e below (T189.setTop (mkF m 165 #[.val (.long p1), .second, .val (.long p2), .second, .val (.long p3), .second, .val (.int p4), .val (.ref b1), .val (.ref b10), .val (.int md), .val (.ref b1), .val (.int sv), .unset] [(.int (own_cmp p1 p3))])) _
            refine XS.istore X189.here hx rfl (hb hby at_165) rfl (l' := #[.val (.long p1), .second, .val (.long p2), .second, .val (.long p3), .second, .val (.int p4), .val (.ref b1), .val (.ref b10), .val (.int md), .val (.ref b1), .val (.int sv), .val (.int (own_cmp p1 p3))]) rfl ?_
            show Steps p.tables e below (T189.setTop (mkF m 167 #[.val (.long p1), .second, .val (.long p2), .second, .val (.long p3), .second, .val (.int p4), .val (.ref b1), .val (.ref b10), .val (.int md), .val (.ref b1), .val (.int sv), .val (.int (own_cmp p1 p3))] [])) _
            refine XS.lloadN X189.here hx rfl (hb hby at_167) rfl ?_
            show Steps p.tables e below (T189.setTop (mkF m 168 #[.val (.long p1), .second, .val (.long p2), .second, .val (.long p3), .second, .val (.int p4), .val (.ref b1), .val (.ref b10), .val (.int md), .val (.ref b1), .val (.int sv), .val (.int (own_cmp p1 p3))] [(.long p1)])) _
            refine XS.lload X189.here hx rfl (hb hby at_168) rfl ?_
            show Steps p.tables e below (T189.setTop (mkF m 170 #[.val (.long p1), .second, .val (.long p2), .second, .val (.long p3), .second, .val (.int p4), .val (.ref b1), .val (.ref b10), .val (.int md), .val (.ref b1), .val (.int sv), .val (.int (own_cmp p1 p3))] [(.long p3), (.long p1)])) _
            refine XS.lcmp X189.here hx rfl (hb hby at_170) rfl ?_
            exact k)
        by_cases hlt : p1 < p3
        ·
          have J193 : ∀ t, Steps p.tables e below (T189.setTop (mkF m 184 #[.val (.long p1), .second, .val (.long p2), .second, .val (.long p3), .second, .val (.int p4), .val (.ref b1), .val (.ref b10), .val (.int md), .val (.ref b1), .val (.int sv), .val (.int (own_cmp p1 p3))] [(.int (1 : Int32))])) t → Steps p.tables e below (s₁.setTop (entryFrame m #[(.long p1), (.long p2), (.long p3), (.int p4)] maxLocals)) t := fun t k => J192 t (by
              show Steps p.tables e below (T189.setTop (mkF m 171 #[.val (.long p1), .second, .val (.long p2), .second, .val (.long p3), .second, .val (.int p4), .val (.ref b1), .val (.ref b10), .val (.int md), .val (.ref b1), .val (.int sv), .val (.int (own_cmp p1 p3))] [(.int (lcmpW p1 p3))])) _
              refine XS.ifNo X189.here hx rfl (hb hby at_171) rfl ((if0 _ _).trans (tlt (by rw [own_l1 hlt]; decide)).2.1) ?_
              show Steps p.tables e below (T189.setTop (mkF m 174 #[.val (.long p1), .second, .val (.long p2), .second, .val (.long p3), .second, .val (.int p4), .val (.ref b1), .val (.ref b10), .val (.int md), .val (.ref b1), .val (.int sv), .val (.int (own_cmp p1 p3))] [])) _
              refine XS.iload X189.here hx rfl (hb hby at_174) rfl ?_
              show Steps p.tables e below (T189.setTop (mkF m 176 #[.val (.long p1), .second, .val (.long p2), .second, .val (.long p3), .second, .val (.int p4), .val (.ref b1), .val (.ref b10), .val (.int md), .val (.ref b1), .val (.int sv), .val (.int (own_cmp p1 p3))] [(.int (own_cmp p1 p3))])) _
              refine XS.ifNo X189.here hx rfl (hb hby at_176) rfl ((if0 _ _).trans (tlt (by rw [own_c1 hlt]; decide)).2.1) ?_
              show Steps p.tables e below (T189.setTop (mkF m 179 #[.val (.long p1), .second, .val (.long p2), .second, .val (.long p3), .second, .val (.int p4), .val (.ref b1), .val (.ref b10), .val (.int md), .val (.ref b1), .val (.int sv), .val (.int (own_cmp p1 p3))] [])) _
              refine XS.iconst X189.here hx rfl (hb hby at_179) ?_
              show Steps p.tables e below (T189.setTop (mkF m 180 #[.val (.long p1), .second, .val (.long p2), .second, .val (.long p3), .second, .val (.int p4), .val (.ref b1), .val (.ref b10), .val (.int md), .val (.ref b1), .val (.int sv), .val (.int (own_cmp p1 p3))] [(.int (1 : Int32))])) _
              refine XS.goto X189.here hx rfl (pc0 := 180) (pc' := 184) rfl (hb hby at_180) (by decide) (by decide) ?_
              exact k)
          obtain ⟨fs, hr, hrun, hended, hWW⟩ := X189.leaveW hSi (by rw [e189]; exact kz) (v := some (.int (1 : Int32))) (fun h => by rw [Bd.returns] at h; cases h)
          refine ⟨_, _, J193 _ ?_, hrun, hended, _, _, rfl, ?_, hWW.1, hWW.2.1, hWW.2.2.1, hWW.2.2.2.mono (by decide) (by decide)⟩
          · show Steps p.tables e below (T189.setTop (mkF m 184 #[.val (.long p1), .second, .val (.long p2), .second, .val (.long p3), .second, .val (.int p4), .val (.ref b1), .val (.ref b10), .val (.int md), .val (.ref b1), .val (.int sv), .val (.int (own_cmp p1 p3))] [(.int (1 : Int32))])) _
            exact retN X189 hx (t := .boolean) Bd.returns (by simp) (hb hby at_184) hr
          · show Q0 Z p1 p2 p3 p4 h0 n0 _ T189.heap _
            rw [e189]
            exact ⟨rfl, N190⟩
        ·
          have J194 : ∀ t, Steps p.tables e below (T189.setTop (mkF m 189 #[.val (.long p1), .second, .val (.long p2), .second, .val (.long p3), .second, .val (.int p4), .val (.ref b1), .val (.ref b10), .val (.int md), .val (.ref b1), .val (.int sv), .val (.int (own_cmp p1 p3))] [(.int (lcmpW p1 p3))])) t → Steps p.tables e below (s₁.setTop (entryFrame m #[(.long p1), (.long p2), (.long p3), (.int p4)] maxLocals)) t := fun t k => J192 t (by
              show Steps p.tables e below (T189.setTop (mkF m 171 #[.val (.long p1), .second, .val (.long p2), .second, .val (.long p3), .second, .val (.int p4), .val (.ref b1), .val (.ref b10), .val (.int md), .val (.ref b1), .val (.int sv), .val (.int (own_cmp p1 p3))] [(.int (lcmpW p1 p3))])) _
              refine XS.ifYes X189.here hx rfl (pc0 := 171) (pc' := 185) rfl (hb hby at_171) rfl ((if0 _ _).trans (flt (own_n1 hlt)).2.1) (by decide) (by decide) ?_
              show Steps p.tables e below (T189.setTop (mkF m 185 #[.val (.long p1), .second, .val (.long p2), .second, .val (.long p3), .second, .val (.int p4), .val (.ref b1), .val (.ref b10), .val (.int md), .val (.ref b1), .val (.int sv), .val (.int (own_cmp p1 p3))] [])) _
              refine XS.lloadN X189.here hx rfl (hb hby at_185) rfl ?_
              show Steps p.tables e below (T189.setTop (mkF m 186 #[.val (.long p1), .second, .val (.long p2), .second, .val (.long p3), .second, .val (.int p4), .val (.ref b1), .val (.ref b10), .val (.int md), .val (.ref b1), .val (.int sv), .val (.int (own_cmp p1 p3))] [(.long p1)])) _
              refine XS.lload X189.here hx rfl (hb hby at_186) rfl ?_
              show Steps p.tables e below (T189.setTop (mkF m 188 #[.val (.long p1), .second, .val (.long p2), .second, .val (.long p3), .second, .val (.int p4), .val (.ref b1), .val (.ref b10), .val (.int md), .val (.ref b1), .val (.int sv), .val (.int (own_cmp p1 p3))] [(.long p3), (.long p1)])) _
              refine XS.lcmp X189.here hx rfl (hb hby at_188) rfl ?_
              exact k)
          by_cases hgt : p3 < p1
          ·
            have J195 : ∀ t, Steps p.tables e below (T189.setTop (mkF m 202 #[.val (.long p1), .second, .val (.long p2), .second, .val (.long p3), .second, .val (.int p4), .val (.ref b1), .val (.ref b10), .val (.int md), .val (.ref b1), .val (.int sv), .val (.int (own_cmp p1 p3))] [(.int (1 : Int32))])) t → Steps p.tables e below (s₁.setTop (entryFrame m #[(.long p1), (.long p2), (.long p3), (.int p4)] maxLocals)) t := fun t k => J194 t (by
                show Steps p.tables e below (T189.setTop (mkF m 189 #[.val (.long p1), .second, .val (.long p2), .second, .val (.long p3), .second, .val (.int p4), .val (.ref b1), .val (.ref b10), .val (.int md), .val (.ref b1), .val (.int sv), .val (.int (own_cmp p1 p3))] [(.int (lcmpW p1 p3))])) _
                refine XS.ifNo X189.here hx rfl (hb hby at_189) rfl ((if0 _ _).trans (tlt (by rw [own_l2 hgt]; decide)).2.2.2) ?_
                show Steps p.tables e below (T189.setTop (mkF m 192 #[.val (.long p1), .second, .val (.long p2), .second, .val (.long p3), .second, .val (.int p4), .val (.ref b1), .val (.ref b10), .val (.int md), .val (.ref b1), .val (.int sv), .val (.int (own_cmp p1 p3))] [])) _
                refine XS.iload X189.here hx rfl (hb hby at_192) rfl ?_
                show Steps p.tables e below (T189.setTop (mkF m 194 #[.val (.long p1), .second, .val (.long p2), .second, .val (.long p3), .second, .val (.int p4), .val (.ref b1), .val (.ref b10), .val (.int md), .val (.ref b1), .val (.int sv), .val (.int (own_cmp p1 p3))] [(.int (own_cmp p1 p3))])) _
                refine XS.ifNo X189.here hx rfl (hb hby at_194) rfl ((if0 _ _).trans (tlt (by rw [own_c2 hgt]; decide)).2.2.2) ?_
                show Steps p.tables e below (T189.setTop (mkF m 197 #[.val (.long p1), .second, .val (.long p2), .second, .val (.long p3), .second, .val (.int p4), .val (.ref b1), .val (.ref b10), .val (.int md), .val (.ref b1), .val (.int sv), .val (.int (own_cmp p1 p3))] [])) _
                refine XS.iconst X189.here hx rfl (hb hby at_197) ?_
                show Steps p.tables e below (T189.setTop (mkF m 198 #[.val (.long p1), .second, .val (.long p2), .second, .val (.long p3), .second, .val (.int p4), .val (.ref b1), .val (.ref b10), .val (.int md), .val (.ref b1), .val (.int sv), .val (.int (own_cmp p1 p3))] [(.int (1 : Int32))])) _
                refine XS.goto X189.here hx rfl (pc0 := 198) (pc' := 202) rfl (hb hby at_198) (by decide) (by decide) ?_
                exact k)
            obtain ⟨fs, hr, hrun, hended, hWW⟩ := X189.leaveW hSi (by rw [e189]; exact kz) (v := some (.int (1 : Int32))) (fun h => by rw [Bd.returns] at h; cases h)
            refine ⟨_, _, J195 _ ?_, hrun, hended, _, _, rfl, ?_, hWW.1, hWW.2.1, hWW.2.2.1, hWW.2.2.2.mono (by decide) (by decide)⟩
            · show Steps p.tables e below (T189.setTop (mkF m 202 #[.val (.long p1), .second, .val (.long p2), .second, .val (.long p3), .second, .val (.int p4), .val (.ref b1), .val (.ref b10), .val (.int md), .val (.ref b1), .val (.int sv), .val (.int (own_cmp p1 p3))] [(.int (1 : Int32))])) _
              exact retN X189 hx (t := .boolean) Bd.returns (by simp) (hb hby at_202) hr
            · show Q0 Z p1 p2 p3 p4 h0 n0 _ T189.heap _
              rw [e189]
              exact ⟨rfl, N190⟩
          ·
            have J196 : ∀ t, Steps p.tables e below (T189.setTop (mkF m 213 #[.val (.long p1), .second, .val (.long p2), .second, .val (.long p3), .second, .val (.int p4), .val (.ref b1), .val (.ref b10), .val (.int md), .val (.ref b1), .val (.int sv), .val (.int (own_cmp p1 p3))] [(.int (1 : Int32))])) t → Steps p.tables e below (s₁.setTop (entryFrame m #[(.long p1), (.long p2), (.long p3), (.int p4)] maxLocals)) t := fun t k => J194 t (by
                show Steps p.tables e below (T189.setTop (mkF m 189 #[.val (.long p1), .second, .val (.long p2), .second, .val (.long p3), .second, .val (.int p4), .val (.ref b1), .val (.ref b10), .val (.int md), .val (.ref b1), .val (.int sv), .val (.int (own_cmp p1 p3))] [(.int (lcmpW p1 p3))])) _
                refine XS.ifYes X189.here hx rfl (pc0 := 189) (pc' := 203) rfl (hb hby at_189) rfl ((if0 _ _).trans (flt (own_n2 hgt)).2.2.2) (by decide) (by decide) ?_
                show Steps p.tables e below (T189.setTop (mkF m 203 #[.val (.long p1), .second, .val (.long p2), .second, .val (.long p3), .second, .val (.int p4), .val (.ref b1), .val (.ref b10), .val (.int md), .val (.ref b1), .val (.int sv), .val (.int (own_cmp p1 p3))] [])) _
                refine XS.iload X189.here hx rfl (hb hby at_203) rfl ?_
                show Steps p.tables e below (T189.setTop (mkF m 205 #[.val (.long p1), .second, .val (.long p2), .second, .val (.long p3), .second, .val (.int p4), .val (.ref b1), .val (.ref b10), .val (.int md), .val (.ref b1), .val (.int sv), .val (.int (own_cmp p1 p3))] [(.int (own_cmp p1 p3))])) _
                refine XS.ifNo X189.here hx rfl (hb hby at_205) rfl ((if0 _ _).trans (teq (own_c3 hlt hgt)).2) ?_
                show Steps p.tables e below (T189.setTop (mkF m 208 #[.val (.long p1), .second, .val (.long p2), .second, .val (.long p3), .second, .val (.int p4), .val (.ref b1), .val (.ref b10), .val (.int md), .val (.ref b1), .val (.int sv), .val (.int (own_cmp p1 p3))] [])) _
                refine XS.iconst X189.here hx rfl (hb hby at_208) ?_
                show Steps p.tables e below (T189.setTop (mkF m 209 #[.val (.long p1), .second, .val (.long p2), .second, .val (.long p3), .second, .val (.int p4), .val (.ref b1), .val (.ref b10), .val (.int md), .val (.ref b1), .val (.int sv), .val (.int (own_cmp p1 p3))] [(.int (1 : Int32))])) _
                refine XS.goto X189.here hx rfl (pc0 := 209) (pc' := 213) rfl (hb hby at_209) (by decide) (by decide) ?_
                exact k)
            obtain ⟨fs, hr, hrun, hended, hWW⟩ := X189.leaveW hSi (by rw [e189]; exact kz) (v := some (.int (1 : Int32))) (fun h => by rw [Bd.returns] at h; cases h)
            refine ⟨_, _, J196 _ ?_, hrun, hended, _, _, rfl, ?_, hWW.1, hWW.2.1, hWW.2.2.1, hWW.2.2.2.mono (by decide) (by decide)⟩
            · show Steps p.tables e below (T189.setTop (mkF m 213 #[.val (.long p1), .second, .val (.long p2), .second, .val (.long p3), .second, .val (.int p4), .val (.ref b1), .val (.ref b10), .val (.int md), .val (.ref b1), .val (.int sv), .val (.int (own_cmp p1 p3))] [(.int (1 : Int32))])) _
              exact retN X189 hx (t := .boolean) Bd.returns (by simp) (hb hby at_213) hr
            · show Q0 Z p1 p2 p3 p4 h0 n0 _ T189.heap _
              rw [e189]
              exact ⟨rfl, N190⟩
      ·
        have J197 : ∀ t, Steps p.tables e below (T16.setTop (mkF m 79 #[.val (.long p1), .second, .val (.long p2), .second, .val (.long p3), .second, .val (.int p4), .val (.ref b1), .val (.ref b10), .val (.int md), .unset, .unset, .unset] [(.long p1), (.ref b1)])) t → Steps p.tables e below (s₁.setTop (entryFrame m #[(.long p1), (.long p2), (.long p3), (.int p4)] maxLocals)) t := fun t k => J125 t (by
            show Steps p.tables e below (T16.setTop (mkF m 49 #[.val (.long p1), .second, .val (.long p2), .second, .val (.long p3), .second, .val (.int p4), .val (.ref b1), .val (.ref b10), .val (.int md), .unset, .unset, .unset] [(.int (2 : Int32)), (.int md)])) _
            refine XS.icmpYes X16.here hx rfl (pc0 := 49) (pc' := 76) rfl (hb hby at_49) rfl (feq h2).2 (by decide) (by decide) ?_
            show Steps p.tables e below (T16.setTop (mkF m 76 #[.val (.long p1), .second, .val (.long p2), .second, .val (.long p3), .second, .val (.int p4), .val (.ref b1), .val (.ref b10), .val (.int md), .unset, .unset, .unset] [])) _
            refine XS.aload X16.here hx rfl (hb hby at_76) rfl rfl ?_
            show Steps p.tables e below (T16.setTop (mkF m 78 #[.val (.long p1), .second, .val (.long p2), .second, .val (.long p3), .second, .val (.int p4), .val (.ref b1), .val (.ref b10), .val (.int md), .unset, .unset, .unset] [(.ref b1)])) _
            refine XS.lloadN X16.here hx rfl (hb hby at_78) rfl ?_
            exact k)
        have f198 := A1.ext E10
        have f199 := F1_cents.ext E10
        have f200 := F1_wide.ext E10
        obtain ⟨cq201, kq201, q201a, q201b, q201c⟩ := isOf hZ e16 f198
        obtain ⟨_, _, ⟨T201, L201, k201, n201⟩, -, X201, ⟨Lc201, hQ201, l201, y201, z201⟩, st201⟩ := X16.virtualBack hx (y := (⟨"com/example/tranche/tranche/model/Amount", "set", "(J)Lcom/example/tranche/tranche/model/Amount;"⟩ : MethodName)) (z := (⟨"com/example/tranche/tranche/model/Amount", "set", "(J)Lcom/example/tranche/tranche/model/Amount;"⟩ : MethodName)) hown (mvT hZ (hw _ (List.mem_of_getElem? (i := 10) rfl))) (mvT hZ (hw _ (List.mem_of_getElem? (i := 11) rfl))) (notFace_of_selects (args := #[]) (mvT hZ (hw _ (List.mem_of_getElem? (i := 13) rfl)))) (mvT hZ (hw _ (List.mem_of_getElem? (i := 13) rfl))) (mvT hZ (hw _ (List.mem_of_getElem? (i := 12) rfl))) (by decide) (backOf (W := 0) (rm3 l Z a0 hw [] b1 p1 (.long (0 : Int64)) .null h10 n0 Z14 f198 ge3 f199 f200) hZ (hw _ (List.mem_of_getElem? (i := 14) rfl)) (hw _ (List.mem_of_getElem? (i := 2) rfl)) (by decide) (by decide)) q201a q201c (g := (mkF m 79 #[.val (.long p1), .second, .val (.long p2), .second, .val (.long p3), .second, .val (.int p4), .val (.ref b1), .val (.ref b10), .val (.int md), .unset, .unset, .unset] [(.long p1), (.ref b1)])) rfl (by rw [hml]; rfl) (Steps.refl _) (argsL := [(.long p1)]) (rest := []) (lenOf pd_23 rfl) rfl (by show 2 * 0 + _ ≤ _; exact Nat.le_of_eq rfl) (hb hby at_79) (fun _ _ => ⟨rfl, e16, (by decide : 2 + 0 ≤ _), (by decide : 4 + 0 ≤ _)⟩)
        dsimp only [Pt.U, Pt.locs, Pt.cells, Pt.slots] at X201 l201 y201 z201 st201 hQ201
        subst y201 z201
        obtain ⟨rfl, Nq201, K201, p201_1, p201_2, p201_3⟩ := hQ201
        have N202 : Fr n0 L201 := by rw [l201]; exact Fr.app N17 Nq201
        have J203 : ∀ t, Steps p.tables e below (T201.setTop (mkF m 82 #[.val (.long p1), .second, .val (.long p2), .second, .val (.long p3), .second, .val (.int p4), .val (.ref b1), .val (.ref b10), .val (.int md), .unset, .unset, .unset] [(.ref b1)])) t → Steps p.tables e below (s₁.setTop (entryFrame m #[(.long p1), (.long p2), (.long p3), (.int p4)] maxLocals)) t := fun t k => J197 t (st201.trans k)
        have Z204 : n0 ≤ T201.heap.size := Nat.le_trans Z14 K201.1
        have kz := Nat.le_trans kz K201.1
        have J205 : ∀ t, Steps p.tables e below (T201.setTop (mkF m 88 #[.val (.long p1), .second, .val (.long p2), .second, .val (.long p3), .second, .val (.int p4), .val (.ref b1), .val (.ref b10), .val (.int md), .val (.ref b1), .unset, .unset] [(.long p3), (.ref b10)])) t → Steps p.tables e below (s₁.setTop (entryFrame m #[(.long p1), (.long p2), (.long p3), (.int p4)] maxLocals)) t := fun t k => J203 t (by
            show Steps p.tables e below (T201.setTop (mkF m 82 #[.val (.long p1), .second, .val (.long p2), .second, .val (.long p3), .second, .val (.int p4), .val (.ref b1), .val (.ref b10), .val (.int md), .unset, .unset, .unset] [(.ref b1)])) _
            refine XS.astore X201.here hx rfl (hb hby at_82) rfl rfl (l' := #[.val (.long p1), .second, .val (.long p2), .second, .val (.long p3), .second, .val (.int p4), .val (.ref b1), .val (.ref b10), .val (.int md), .val (.ref b1), .unset, .unset]) rfl ?_
            show Steps p.tables e below (T201.setTop (mkF m 84 #[.val (.long p1), .second, .val (.long p2), .second, .val (.long p3), .second, .val (.int p4), .val (.ref b1), .val (.ref b10), .val (.int md), .val (.ref b1), .unset, .unset] [])) _
            refine XS.aload X201.here hx rfl (hb hby at_84) rfl rfl ?_
            show Steps p.tables e below (T201.setTop (mkF m 86 #[.val (.long p1), .second, .val (.long p2), .second, .val (.long p3), .second, .val (.int p4), .val (.ref b1), .val (.ref b10), .val (.int md), .val (.ref b1), .unset, .unset] [(.ref b10)])) _
            refine XS.lload X201.here hx rfl (hb hby at_86) rfl ?_
            exact k)
        have f206 := A10.keep K201
        have f207 := F10_cents.keep K201 (ninS (Ne.symm ne12) nin0)
        have f208 := F10_wide.keep K201 (ninS (Ne.symm ne12) nin0)
        obtain ⟨cq209, kq209, q209a, q209b, q209c⟩ := isOf hZ rfl f206
        obtain ⟨_, _, ⟨T209, L209, k209, n209⟩, -, X209, ⟨Lc209, hQ209, l209, y209, z209⟩, st209⟩ := X201.virtualBack hx (y := (⟨"com/example/tranche/tranche/model/Amount", "set", "(J)Lcom/example/tranche/tranche/model/Amount;"⟩ : MethodName)) (z := (⟨"com/example/tranche/tranche/model/Amount", "set", "(J)Lcom/example/tranche/tranche/model/Amount;"⟩ : MethodName)) hown (mvT hZ (hw _ (List.mem_of_getElem? (i := 10) rfl))) (mvT hZ (hw _ (List.mem_of_getElem? (i := 11) rfl))) (notFace_of_selects (args := #[]) (mvT hZ (hw _ (List.mem_of_getElem? (i := 13) rfl)))) (mvT hZ (hw _ (List.mem_of_getElem? (i := 13) rfl))) (mvT hZ (hw _ (List.mem_of_getElem? (i := 12) rfl))) (by decide) (backOf (W := 0) (rm3 l Z a0 hw [] b10 p3 (.long (0 : Int64)) .null T201.heap n0 Z204 f206 ge13 f207 f208) hZ (hw _ (List.mem_of_getElem? (i := 14) rfl)) (hw _ (List.mem_of_getElem? (i := 2) rfl)) (by decide) (by decide)) q209a q209c (g := (mkF m 88 #[.val (.long p1), .second, .val (.long p2), .second, .val (.long p3), .second, .val (.int p4), .val (.ref b1), .val (.ref b10), .val (.int md), .val (.ref b1), .unset, .unset] [(.long p3), (.ref b10)])) rfl (by rw [hml]; rfl) (Steps.refl _) (argsL := [(.long p3)]) (rest := []) (lenOf pd_23 rfl) rfl (by show 2 * 0 + _ ≤ _; exact Nat.le_of_eq rfl) (hb hby at_88) (fun _ _ => ⟨rfl, rfl, (by decide : 2 + 0 ≤ _), (by decide : 4 + 0 ≤ _)⟩)
        dsimp only [Pt.U, Pt.locs, Pt.cells, Pt.slots] at X209 l209 y209 z209 st209 hQ209
        subst y209 z209
        obtain ⟨rfl, Nq209, K209, p209_1, p209_2, p209_3⟩ := hQ209
        have N210 : Fr n0 L209 := by rw [l209]; exact Fr.app N202 Nq209
        have J211 : ∀ t, Steps p.tables e below (T209.setTop (mkF m 91 #[.val (.long p1), .second, .val (.long p2), .second, .val (.long p3), .second, .val (.int p4), .val (.ref b1), .val (.ref b10), .val (.int md), .val (.ref b1), .unset, .unset] [(.ref b10)])) t → Steps p.tables e below (s₁.setTop (entryFrame m #[(.long p1), (.long p2), (.long p3), (.int p4)] maxLocals)) t := fun t k => J205 t (st209.trans k)
        have Z212 : n0 ≤ T209.heap.size := Nat.le_trans Z204 K209.1
        have kz := Nat.le_trans kz K209.1
        have J213 : ∀ t, Steps p.tables e below (T209.setTop (mkF m 103 #[.val (.long p1), .second, .val (.long p2), .second, .val (.long p3), .second, .val (.int p4), .val (.ref b1), .val (.ref b10), .val (.int md), .val (.ref b1), .unset, .unset] [(.ref b1)])) t → Steps p.tables e below (s₁.setTop (entryFrame m #[(.long p1), (.long p2), (.long p3), (.int p4)] maxLocals)) t := fun t k => J211 t (by
            show Steps p.tables e below (T209.setTop (mkF m 91 #[.val (.long p1), .second, .val (.long p2), .second, .val (.long p3), .second, .val (.int p4), .val (.ref b1), .val (.ref b10), .val (.int md), .val (.ref b1), .unset, .unset] [(.ref b10)])) _
            refine XS.pop X209.here hx rfl (hb hby at_91) rfl rfl ?_
            show Steps p.tables e below (T209.setTop (mkF m 92 #[.val (.long p1), .second, .val (.long p2), .second, .val (.long p3), .second, .val (.int p4), .val (.ref b1), .val (.ref b10), .val (.int md), .val (.ref b1), .unset, .unset] [])) _
            refine XS.aload X209.here hx rfl (hb hby at_92) rfl rfl ?_
            show Steps p.tables e below (T209.setTop (mkF m 94 #[.val (.long p1), .second, .val (.long p2), .second, .val (.long p3), .second, .val (.int p4), .val (.ref b1), .val (.ref b10), .val (.int md), .val (.ref b1), .unset, .unset] [(.ref b1)])) _
            refine XS.aload X209.here hx rfl (hb hby at_94) rfl rfl ?_
            show Steps p.tables e below (T209.setTop (mkF m 96 #[.val (.long p1), .second, .val (.long p2), .second, .val (.long p3), .second, .val (.int p4), .val (.ref b1), .val (.ref b10), .val (.int md), .val (.ref b1), .unset, .unset] [(.ref b1), (.ref b1)])) _
            refine Jvm.RoadKit.acmp (g := (mkF m 96 #[.val (.long p1), .second, .val (.long p2), .second, .val (.long p3), .second, .val (.int p4), .val (.ref b1), .val (.ref b10), .val (.int md), .val (.ref b1), .unset, .unset] [(.ref b1), (.ref b1)])) X209 hx rfl rfl rfl (pc0 := 96) (pc' := 101) (same := true) rfl (hb hby at_96) rfl (decide_eq_true rfl) (by decide) (by decide) ?_
            show Steps p.tables e below (T209.setTop (mkF m 101 #[.val (.long p1), .second, .val (.long p2), .second, .val (.long p3), .second, .val (.int p4), .val (.ref b1), .val (.ref b10), .val (.int md), .val (.ref b1), .unset, .unset] [])) _
            refine XS.aload X209.here hx rfl (hb hby at_101) rfl rfl ?_
            exact k)
        have f214 := p201_1.keep K209
        have f215 := p201_3.keep K209 (ninS ne12 nin0)
        obtain ⟨cq216, kq216, q216a, q216b, q216c⟩ := isOf hZ rfl f214
        obtain ⟨_, _, ⟨T216, L216, k216, n216⟩, -, X216, ⟨Lc216, hQ216, l216, y216, z216⟩, st216⟩ := X209.virtualBack hx (y := (⟨"com/example/tranche/tranche/model/Amount", "inCents", "()Z"⟩ : MethodName)) (z := (⟨"com/example/tranche/tranche/model/Amount", "inCents", "()Z"⟩ : MethodName)) hown (mvT hZ (hw _ (List.mem_of_getElem? (i := 231) rfl))) (mvT hZ (hw _ (List.mem_of_getElem? (i := 232) rfl))) (notFace_of_selects (args := #[]) (mvT hZ (hw _ (List.mem_of_getElem? (i := 234) rfl)))) (mvT hZ (hw _ (List.mem_of_getElem? (i := 234) rfl))) (mvT hZ (hw _ (List.mem_of_getElem? (i := 233) rfl))) (by decide) (backOf (W := 0) (rm37 l Z a0 hw [] b1 T209.heap n0 Z212 f215) hZ (hw _ (List.mem_of_getElem? (i := 235) rfl)) (hw _ (List.mem_of_getElem? (i := 2) rfl)) (by decide) (by decide)) q216a q216c (g := (mkF m 103 #[.val (.long p1), .second, .val (.long p2), .second, .val (.long p3), .second, .val (.int p4), .val (.ref b1), .val (.ref b10), .val (.int md), .val (.ref b1), .unset, .unset] [(.ref b1)])) rfl (by rw [hml]; rfl) (Steps.refl _) (argsL := []) (rest := []) (lenOf pd_24 rfl) rfl (by show 2 * 0 + _ ≤ _; exact Nat.le_of_eq rfl) (hb hby at_103) (fun _ _ => ⟨rfl, rfl, (by decide : 2 + 0 ≤ _), (by decide : 4 + 0 ≤ _)⟩)
        dsimp only [Pt.U, Pt.locs, Pt.cells, Pt.slots] at X216 l216 y216 z216 st216 hQ216
        subst y216 z216
        obtain ⟨rfl, Nq216, e216⟩ := hQ216
        have N217 : Fr n0 L216 := by rw [l216]; exact Fr.app N210 Nq216
        have J218 : ∀ t, Steps p.tables e below (T216.setTop (mkF m 106 #[.val (.long p1), .second, .val (.long p2), .second, .val (.long p3), .second, .val (.int p4), .val (.ref b1), .val (.ref b10), .val (.int md), .val (.ref b1), .unset, .unset] [(.int (1 : Int32))])) t → Steps p.tables e below (s₁.setTop (entryFrame m #[(.long p1), (.long p2), (.long p3), (.int p4)] maxLocals)) t := fun t k => J213 t (st216.trans k)
        have J219 : ∀ t, Steps p.tables e below (T216.setTop (mkF m 113 #[.val (.long p1), .second, .val (.long p2), .second, .val (.long p3), .second, .val (.int p4), .val (.ref b1), .val (.ref b10), .val (.int md), .val (.ref b1), .unset, .unset] [(.ref b1)])) t → Steps p.tables e below (s₁.setTop (entryFrame m #[(.long p1), (.long p2), (.long p3), (.int p4)] maxLocals)) t := fun t k => J218 t (by
            show Steps p.tables e below (T216.setTop (mkF m 106 #[.val (.long p1), .second, .val (.long p2), .second, .val (.long p3), .second, .val (.int p4), .val (.ref b1), .val (.ref b10), .val (.int md), .val (.ref b1), .unset, .unset] [(.int (1 : Int32))])) _
            refine XS.ifYes X216.here hx rfl (pc0 := 106) (pc' := 111) rfl (hb hby at_106) rfl ((if0 _ _).trans (feq (by decide)).2) (by decide) (by decide) ?_
            show Steps p.tables e below (T216.setTop (mkF m 111 #[.val (.long p1), .second, .val (.long p2), .second, .val (.long p3), .second, .val (.int p4), .val (.ref b1), .val (.ref b10), .val (.int md), .val (.ref b1), .unset, .unset] [])) _
            refine XS.aload X216.here hx rfl (hb hby at_111) rfl rfl ?_
            exact k)
        have f220 := p201_2.keep K209 (ninS ne12 nin0)
        obtain ⟨cq221, kq221, q221a, q221b, q221c⟩ := isOf hZ e216 f214
        obtain ⟨_, _, ⟨T221, L221, k221, n221⟩, -, X221, ⟨Lc221, hQ221, l221, y221, z221⟩, st221⟩ := X216.virtualBack hx (y := (⟨"com/example/tranche/tranche/model/Amount", "cents", "()J"⟩ : MethodName)) (z := (⟨"com/example/tranche/tranche/model/Amount", "cents", "()J"⟩ : MethodName)) hown (mvT hZ (hw _ (List.mem_of_getElem? (i := 236) rfl))) (mvT hZ (hw _ (List.mem_of_getElem? (i := 237) rfl))) (notFace_of_selects (args := #[]) (mvT hZ (hw _ (List.mem_of_getElem? (i := 239) rfl)))) (mvT hZ (hw _ (List.mem_of_getElem? (i := 239) rfl))) (mvT hZ (hw _ (List.mem_of_getElem? (i := 238) rfl))) (by decide) (backOf (W := 0) (rm38 l Z a0 hw [] b1 p1 T209.heap n0 Z212 f220 f215) hZ (hw _ (List.mem_of_getElem? (i := 240) rfl)) (hw _ (List.mem_of_getElem? (i := 2) rfl)) (by decide) (by decide)) q221a q221c (g := (mkF m 113 #[.val (.long p1), .second, .val (.long p2), .second, .val (.long p3), .second, .val (.int p4), .val (.ref b1), .val (.ref b10), .val (.int md), .val (.ref b1), .unset, .unset] [(.ref b1)])) rfl (by rw [hml]; rfl) (Steps.refl _) (argsL := []) (rest := []) (lenOf pd_25 rfl) rfl (by show 2 * 0 + _ ≤ _; exact Nat.le_of_eq rfl) (hb hby at_113) (fun _ _ => ⟨rfl, e216, (by decide : 2 + 0 ≤ _), (by decide : 4 + 0 ≤ _)⟩)
        dsimp only [Pt.U, Pt.locs, Pt.cells, Pt.slots] at X221 l221 y221 z221 st221 hQ221
        subst y221 z221
        obtain ⟨rfl, Nq221, e221⟩ := hQ221
        have N222 : Fr n0 L221 := by rw [l221]; exact Fr.app N217 Nq221
        have J223 : ∀ t, Steps p.tables e below (T221.setTop (mkF m 116 #[.val (.long p1), .second, .val (.long p2), .second, .val (.long p3), .second, .val (.int p4), .val (.ref b1), .val (.ref b10), .val (.int md), .val (.ref b1), .unset, .unset] [(.long p1)])) t → Steps p.tables e below (s₁.setTop (entryFrame m #[(.long p1), (.long p2), (.long p3), (.int p4)] maxLocals)) t := fun t k => J219 t (st221.trans k)
        have J224 : ∀ t, Steps p.tables e below (T221.setTop (mkF m 123 #[.val (.long p1), .second, .val (.long p2), .second, .val (.long p3), .second, .val (.int p4), .val (.ref b1), .val (.ref b10), .val (.int md), .val (.ref b1), .unset, .unset] [])) t → Steps p.tables e below (s₁.setTop (entryFrame m #[(.long p1), (.long p2), (.long p3), (.int p4)] maxLocals)) t := fun t k => J223 t (by
            show Steps p.tables e below (T221.setTop (mkF m 116 #[.val (.long p1), .second, .val (.long p2), .second, .val (.long p3), .second, .val (.int p4), .val (.ref b1), .val (.ref b10), .val (.int md), .val (.ref b1), .unset, .unset] [(.long p1)])) _
            refine XS.lloadN X221.here hx rfl (hb hby at_116) rfl ?_
            show Steps p.tables e below (T221.setTop (mkF m 117 #[.val (.long p1), .second, .val (.long p2), .second, .val (.long p3), .second, .val (.int p4), .val (.ref b1), .val (.ref b10), .val (.int md), .val (.ref b1), .unset, .unset] [(.long p1), (.long p1)])) _
            refine XS.lcmp X221.here hx rfl (hb hby at_117) rfl ?_
            show Steps p.tables e below (T221.setTop (mkF m 118 #[.val (.long p1), .second, .val (.long p2), .second, .val (.long p3), .second, .val (.int p4), .val (.ref b1), .val (.ref b10), .val (.int md), .val (.ref b1), .unset, .unset] [(.int (lcmpW p1 p1))])) _
            refine XS.ifYes X221.here hx rfl (pc0 := 118) (pc' := 123) rfl (hb hby at_118) rfl ((if0 _ _).trans (teq (own_l3 p1)).1) (by decide) (by decide) ?_
            exact k)
        obtain ⟨sv, hsv⟩ : ∃ z : Int32, z = (if (0 : Int32) < (lcmpW p1 (0 : Int64)) then (1 : Int32) else (if (lcmpW p1 (0 : Int64)) < (0 : Int32) then (-1 : Int32) else (0 : Int32))) := ⟨_, rfl⟩
        have ps225 : ∀ t, Steps p.tables e below (T221.setTop (mkF m 144 #[.val (.long p1), .second, .val (.long p2), .second, .val (.long p3), .second, .val (.int p4), .val (.ref b1), .val (.ref b10), .val (.int md), .val (.ref b1), .unset, .unset] [(.int sv)])) t → Steps p.tables e below (T221.setTop (mkF m 123 #[.val (.long p1), .second, .val (.long p2), .second, .val (.long p3), .second, .val (.int p4), .val (.ref b1), .val (.ref b10), .val (.int md), .val (.ref b1), .unset, .unset] [])) t := by
          intro t k
          show Steps p.tables e below (T221.setTop (mkF m 123 #[.val (.long p1), .second, .val (.long p2), .second, .val (.long p3), .second, .val (.int p4), .val (.ref b1), .val (.ref b10), .val (.int md), .val (.ref b1), .unset, .unset] [])) _
          refine XS.lloadN X221.here hx rfl (hb hby at_123) rfl ?_
          show Steps p.tables e below (T221.setTop (mkF m 124 #[.val (.long p1), .second, .val (.long p2), .second, .val (.long p3), .second, .val (.int p4), .val (.ref b1), .val (.ref b10), .val (.int md), .val (.ref b1), .unset, .unset] [(.long p1)])) _
          refine XS.lconst X221.here hx rfl (hb hby at_124) ?_
          show Steps p.tables e below (T221.setTop (mkF m 125 #[.val (.long p1), .second, .val (.long p2), .second, .val (.long p3), .second, .val (.int p4), .val (.ref b1), .val (.ref b10), .val (.int md), .val (.ref b1), .unset, .unset] [(.long (0 : Int64)), (.long p1)])) _
          refine XS.lcmp X221.here hx rfl (hb hby at_125) rfl ?_
          by_cases hm126_0 : (0 : Int32) < (lcmpW p1 (0 : Int64))
          ·
            show Steps p.tables e below (T221.setTop (mkF m 126 #[.val (.long p1), .second, .val (.long p2), .second, .val (.long p3), .second, .val (.int p4), .val (.ref b1), .val (.ref b10), .val (.int md), .val (.ref b1), .unset, .unset] [(.int (lcmpW p1 (0 : Int64)))])) _
            refine XS.ifNo X221.here hx rfl (hb hby at_126) rfl ((if0 _ _).trans (tlt hm126_0).2.2.2) ?_
            show Steps p.tables e below (T221.setTop (mkF m 129 #[.val (.long p1), .second, .val (.long p2), .second, .val (.long p3), .second, .val (.int p4), .val (.ref b1), .val (.ref b10), .val (.int md), .val (.ref b1), .unset, .unset] [])) _
            refine XS.iconst X221.here hx rfl (hb hby at_129) ?_
            show Steps p.tables e below (T221.setTop (mkF m 130 #[.val (.long p1), .second, .val (.long p2), .second, .val (.long p3), .second, .val (.int p4), .val (.ref b1), .val (.ref b10), .val (.int md), .val (.ref b1), .unset, .unset] [(.int (1 : Int32))])) _
            refine XS.goto X221.here hx rfl (pc0 := 130) (pc' := 144) rfl (hb hby at_130) (by decide) (by decide) ?_
            have qsv : sv = (1 : Int32) := by rw [hsv]; first | (simp only [hm126_0, if_true, if_false, reduceIte]; done) | simp [hm126_0]
            rw [qsv] at k
            exact k
          ·
            show Steps p.tables e below (T221.setTop (mkF m 126 #[.val (.long p1), .second, .val (.long p2), .second, .val (.long p3), .second, .val (.int p4), .val (.ref b1), .val (.ref b10), .val (.int md), .val (.ref b1), .unset, .unset] [(.int (lcmpW p1 (0 : Int64)))])) _
            refine XS.ifYes X221.here hx rfl (pc0 := 126) (pc' := 133) rfl (hb hby at_126) rfl ((if0 _ _).trans (flt hm126_0).2.2.2) (by decide) (by decide) ?_
            show Steps p.tables e below (T221.setTop (mkF m 133 #[.val (.long p1), .second, .val (.long p2), .second, .val (.long p3), .second, .val (.int p4), .val (.ref b1), .val (.ref b10), .val (.int md), .val (.ref b1), .unset, .unset] [])) _
            refine XS.lloadN X221.here hx rfl (hb hby at_133) rfl ?_
            show Steps p.tables e below (T221.setTop (mkF m 134 #[.val (.long p1), .second, .val (.long p2), .second, .val (.long p3), .second, .val (.int p4), .val (.ref b1), .val (.ref b10), .val (.int md), .val (.ref b1), .unset, .unset] [(.long p1)])) _
            refine XS.lconst X221.here hx rfl (hb hby at_134) ?_
            show Steps p.tables e below (T221.setTop (mkF m 135 #[.val (.long p1), .second, .val (.long p2), .second, .val (.long p3), .second, .val (.int p4), .val (.ref b1), .val (.ref b10), .val (.int md), .val (.ref b1), .unset, .unset] [(.long (0 : Int64)), (.long p1)])) _
            refine XS.lcmp X221.here hx rfl (hb hby at_135) rfl ?_
            by_cases hm136_1 : (lcmpW p1 (0 : Int64)) < (0 : Int32)
            ·
              show Steps p.tables e below (T221.setTop (mkF m 136 #[.val (.long p1), .second, .val (.long p2), .second, .val (.long p3), .second, .val (.int p4), .val (.ref b1), .val (.ref b10), .val (.int md), .val (.ref b1), .unset, .unset] [(.int (lcmpW p1 (0 : Int64)))])) _
              refine XS.ifNo X221.here hx rfl (hb hby at_136) rfl ((if0 _ _).trans (tlt hm136_1).2.1) ?_
              show Steps p.tables e below (T221.setTop (mkF m 139 #[.val (.long p1), .second, .val (.long p2), .second, .val (.long p3), .second, .val (.int p4), .val (.ref b1), .val (.ref b10), .val (.int md), .val (.ref b1), .unset, .unset] [])) _
              refine XS.iconst X221.here hx rfl (hb hby at_139) ?_
              show Steps p.tables e below (T221.setTop (mkF m 140 #[.val (.long p1), .second, .val (.long p2), .second, .val (.long p3), .second, .val (.int p4), .val (.ref b1), .val (.ref b10), .val (.int md), .val (.ref b1), .unset, .unset] [(.int (-1 : Int32))])) _
              refine XS.goto X221.here hx rfl (pc0 := 140) (pc' := 144) rfl (hb hby at_140) (by decide) (by decide) ?_
              have qsv : sv = (-1 : Int32) := by rw [hsv]; first | (simp only [hm126_0, hm136_1, if_true, if_false, reduceIte]; done) | simp [hm126_0, hm136_1]
              rw [qsv] at k
              exact k
            ·
              show Steps p.tables e below (T221.setTop (mkF m 136 #[.val (.long p1), .second, .val (.long p2), .second, .val (.long p3), .second, .val (.int p4), .val (.ref b1), .val (.ref b10), .val (.int md), .val (.ref b1), .unset, .unset] [(.int (lcmpW p1 (0 : Int64)))])) _
              refine XS.ifYes X221.here hx rfl (pc0 := 136) (pc' := 143) rfl (hb hby at_136) rfl ((if0 _ _).trans (flt hm136_1).2.1) (by decide) (by decide) ?_
              show Steps p.tables e below (T221.setTop (mkF m 143 #[.val (.long p1), .second, .val (.long p2), .second, .val (.long p3), .second, .val (.int p4), .val (.ref b1), .val (.ref b10), .val (.int md), .val (.ref b1), .unset, .unset] [])) _
              refine XS.iconst X221.here hx rfl (hb hby at_143) ?_
              have qsv : sv = (0 : Int32) := by rw [hsv]; first | (simp only [hm126_0, hm136_1, if_true, if_false, reduceIte]; done) | simp [hm126_0, hm136_1]
              rw [qsv] at k
              exact k
        have J226 : ∀ t, Steps p.tables e below (T221.setTop (mkF m 144 #[.val (.long p1), .second, .val (.long p2), .second, .val (.long p3), .second, .val (.int p4), .val (.ref b1), .val (.ref b10), .val (.int md), .val (.ref b1), .unset, .unset] [(.int sv)])) t → Steps p.tables e below (s₁.setTop (entryFrame m #[(.long p1), (.long p2), (.long p3), (.int p4)] maxLocals)) t := fun t k => J224 t (ps225 t k)
        have J227 : ∀ t, Steps p.tables e below (T221.setTop (mkF m 148 #[.val (.long p1), .second, .val (.long p2), .second, .val (.long p3), .second, .val (.int p4), .val (.ref b1), .val (.ref b10), .val (.int md), .val (.ref b1), .val (.int sv), .unset] [(.ref b1)])) t → Steps p.tables e below (s₁.setTop (entryFrame m #[(.long p1), (.long p2), (.long p3), (.int p4)] maxLocals)) t := fun t k => J226 t (by
            show Steps p.tables e below (T221.setTop (mkF m 144 #[.val (.long p1), .second, .val (.long p2), .second, .val (.long p3), .second, .val (.int p4), .val (.ref b1), .val (.ref b10), .val (.int md), .val (.ref b1), .unset, .unset] [(.int sv)])) _
            refine XS.istore X221.here hx rfl (hb hby at_144) rfl (l' := #[.val (.long p1), .second, .val (.long p2), .second, .val (.long p3), .second, .val (.int p4), .val (.ref b1), .val (.ref b10), .val (.int md), .val (.ref b1), .val (.int sv), .unset]) rfl ?_
            show Steps p.tables e below (T221.setTop (mkF m 146 #[.val (.long p1), .second, .val (.long p2), .second, .val (.long p3), .second, .val (.int p4), .val (.ref b1), .val (.ref b10), .val (.int md), .val (.ref b1), .val (.int sv), .unset] [])) _
            refine XS.aload X221.here hx rfl (hb hby at_146) rfl rfl ?_
            exact k)
        obtain ⟨cq228, kq228, q228a, q228b, q228c⟩ := isOf hZ e221 f214
        obtain ⟨_, _, ⟨T228, L228, k228, n228⟩, -, X228, ⟨Lc228, hQ228, l228, y228, z228⟩, st228⟩ := X221.virtualBack hx (y := (⟨"com/example/tranche/tranche/model/Amount", "signum", "()I"⟩ : MethodName)) (z := (⟨"com/example/tranche/tranche/model/Amount", "signum", "()I"⟩ : MethodName)) hown (mvT hZ (hw _ (List.mem_of_getElem? (i := 241) rfl))) (mvT hZ (hw _ (List.mem_of_getElem? (i := 242) rfl))) (notFace_of_selects (args := #[]) (mvT hZ (hw _ (List.mem_of_getElem? (i := 244) rfl)))) (mvT hZ (hw _ (List.mem_of_getElem? (i := 244) rfl))) (mvT hZ (hw _ (List.mem_of_getElem? (i := 243) rfl))) (by decide) (backOf (W := 0) (rm39 l Z a0 hw [] b1 p1 T209.heap n0 Z212 f220 f215) hZ (hw _ (List.mem_of_getElem? (i := 245) rfl)) (hw _ (List.mem_of_getElem? (i := 2) rfl)) (by decide) (by decide)) q228a q228c (g := (mkF m 148 #[.val (.long p1), .second, .val (.long p2), .second, .val (.long p3), .second, .val (.int p4), .val (.ref b1), .val (.ref b10), .val (.int md), .val (.ref b1), .val (.int sv), .unset] [(.ref b1)])) rfl (by rw [hml]; rfl) (Steps.refl _) (argsL := []) (rest := []) (lenOf pd_18 rfl) rfl (by show 2 * 0 + _ ≤ _; exact Nat.le_of_eq rfl) (hb hby at_148) (fun _ _ => ⟨rfl, e221, (by decide : 2 + 0 ≤ _), (by decide : 4 + 0 ≤ _)⟩)
        dsimp only [Pt.U, Pt.locs, Pt.cells, Pt.slots] at X228 l228 y228 z228 st228 hQ228
        subst y228 z228
        obtain ⟨rfl, Nq228, e228⟩ := hQ228
        have N229 : Fr n0 L228 := by rw [l228]; exact Fr.app N222 Nq228
        have J230 : ∀ t, Steps p.tables e below (T228.setTop (mkF m 151 #[.val (.long p1), .second, .val (.long p2), .second, .val (.long p3), .second, .val (.int p4), .val (.ref b1), .val (.ref b10), .val (.int md), .val (.ref b1), .val (.int sv), .unset] [(.int (own_sg p1))])) t → Steps p.tables e below (s₁.setTop (entryFrame m #[(.long p1), (.long p2), (.long p3), (.int p4)] maxLocals)) t := fun t k => J227 t (st228.trans k)
        have J231 : ∀ t, Steps p.tables e below (T228.setTop (mkF m 162 #[.val (.long p1), .second, .val (.long p2), .second, .val (.long p3), .second, .val (.int p4), .val (.ref b1), .val (.ref b10), .val (.int md), .val (.ref b1), .val (.int sv), .unset] [(.ref b10), (.ref b1)])) t → Steps p.tables e below (s₁.setTop (entryFrame m #[(.long p1), (.long p2), (.long p3), (.int p4)] maxLocals)) t := fun t k => J230 t (by
            show Steps p.tables e below (T228.setTop (mkF m 151 #[.val (.long p1), .second, .val (.long p2), .second, .val (.long p3), .second, .val (.int p4), .val (.ref b1), .val (.ref b10), .val (.int md), .val (.ref b1), .val (.int sv), .unset] [(.int (own_sg p1))])) _
            refine XS.iload X228.here hx rfl (hb hby at_151) rfl ?_
            show Steps p.tables e below (T228.setTop (mkF m 153 #[.val (.long p1), .second, .val (.long p2), .second, .val (.long p3), .second, .val (.int p4), .val (.ref b1), .val (.ref b10), .val (.int md), .val (.ref b1), .val (.int sv), .unset] [(.int sv), (.int (own_sg p1))])) _
            refine XS.icmpYes X228.here hx rfl (pc0 := 153) (pc' := 158) rfl (hb hby at_153) rfl (teq (own_sgn p1 sv hsv)).1 (by decide) (by decide) ?_
            show Steps p.tables e below (T228.setTop (mkF m 158 #[.val (.long p1), .second, .val (.long p2), .second, .val (.long p3), .second, .val (.int p4), .val (.ref b1), .val (.ref b10), .val (.int md), .val (.ref b1), .val (.int sv), .unset] [])) _
            refine XS.aload X228.here hx rfl (hb hby at_158) rfl rfl ?_
            show Steps p.tables e below (T228.setTop (mkF m 160 #[.val (.long p1), .second, .val (.long p2), .second, .val (.long p3), .second, .val (.int p4), .val (.ref b1), .val (.ref b10), .val (.int md), .val (.ref b1), .val (.int sv), .unset] [(.ref b1)])) _
            refine XS.aload X228.here hx rfl (hb hby at_160) rfl rfl ?_
            exact k)
        obtain ⟨cq232, kq232, q232a, q232b, q232c⟩ := isOf hZ e228 f214
        obtain ⟨_, _, ⟨T232, L232, k232, n232⟩, -, X232, ⟨Lc232, hQ232, l232, y232, z232⟩, st232⟩ := X228.virtualBack hx (y := (⟨"com/example/tranche/tranche/model/Amount", "compareTo", "(Lcom/example/tranche/tranche/model/Amount;)I"⟩ : MethodName)) (z := (⟨"com/example/tranche/tranche/model/Amount", "compareTo", "(Lcom/example/tranche/tranche/model/Amount;)I"⟩ : MethodName)) hown (mvT hZ (hw _ (List.mem_of_getElem? (i := 247) rfl))) (mvT hZ (hw _ (List.mem_of_getElem? (i := 248) rfl))) (notFace_of_selects (args := #[]) (mvT hZ (hw _ (List.mem_of_getElem? (i := 250) rfl)))) (mvT hZ (hw _ (List.mem_of_getElem? (i := 250) rfl))) (mvT hZ (hw _ (List.mem_of_getElem? (i := 249) rfl))) (by decide) (backOf (W := 0) (rm40 l Z a0 hw [] b1 b10 p1 p3 T209.heap n0 Z212 f220 f215 p209_2 p209_3) hZ (hw _ (List.mem_of_getElem? (i := 251) rfl)) (hw _ (List.mem_of_getElem? (i := 2) rfl)) (by decide) (by decide)) q232a q232c (g := (mkF m 162 #[.val (.long p1), .second, .val (.long p2), .second, .val (.long p3), .second, .val (.int p4), .val (.ref b1), .val (.ref b10), .val (.int md), .val (.ref b1), .val (.int sv), .unset] [(.ref b10), (.ref b1)])) rfl (by rw [hml]; rfl) (Steps.refl _) (argsL := [(.ref b10)]) (rest := []) (lenOf pd_26 rfl) rfl (by show 2 * 0 + _ ≤ _; exact Nat.le_of_eq rfl) (hb hby at_162) (fun _ _ => ⟨rfl, e228, (by decide : 2 + 0 ≤ _), (by decide : 4 + 0 ≤ _)⟩)
        dsimp only [Pt.U, Pt.locs, Pt.cells, Pt.slots] at X232 l232 y232 z232 st232 hQ232
        subst y232 z232
        obtain ⟨rfl, Nq232, e232⟩ := hQ232
        have N233 : Fr n0 L232 := by rw [l232]; exact Fr.app N229 Nq232
        have J234 : ∀ t, Steps p.tables e below (T232.setTop (mkF m 165 #[.val (.long p1), .second, .val (.long p2), .second, .val (.long p3), .second, .val (.int p4), .val (.ref b1), .val (.ref b10), .val (.int md), .val (.ref b1), .val (.int sv), .unset] [(.int (own_cmp p1 p3))])) t → Steps p.tables e below (s₁.setTop (entryFrame m #[(.long p1), (.long p2), (.long p3), (.int p4)] maxLocals)) t := fun t k => J231 t (st232.trans k)
        have J235 : ∀ t, Steps p.tables e below (T232.setTop (mkF m 171 #[.val (.long p1), .second, .val (.long p2), .second, .val (.long p3), .second, .val (.int p4), .val (.ref b1), .val (.ref b10), .val (.int md), .val (.ref b1), .val (.int sv), .val (.int (own_cmp p1 p3))] [(.int (lcmpW p1 p3))])) t → Steps p.tables e below (s₁.setTop (entryFrame m #[(.long p1), (.long p2), (.long p3), (.int p4)] maxLocals)) t := fun t k => J234 t (by
            show Steps p.tables e below (T232.setTop (mkF m 165 #[.val (.long p1), .second, .val (.long p2), .second, .val (.long p3), .second, .val (.int p4), .val (.ref b1), .val (.ref b10), .val (.int md), .val (.ref b1), .val (.int sv), .unset] [(.int (own_cmp p1 p3))])) _
            refine XS.istore X232.here hx rfl (hb hby at_165) rfl (l' := #[.val (.long p1), .second, .val (.long p2), .second, .val (.long p3), .second, .val (.int p4), .val (.ref b1), .val (.ref b10), .val (.int md), .val (.ref b1), .val (.int sv), .val (.int (own_cmp p1 p3))]) rfl ?_
            show Steps p.tables e below (T232.setTop (mkF m 167 #[.val (.long p1), .second, .val (.long p2), .second, .val (.long p3), .second, .val (.int p4), .val (.ref b1), .val (.ref b10), .val (.int md), .val (.ref b1), .val (.int sv), .val (.int (own_cmp p1 p3))] [])) _
            refine XS.lloadN X232.here hx rfl (hb hby at_167) rfl ?_
            show Steps p.tables e below (T232.setTop (mkF m 168 #[.val (.long p1), .second, .val (.long p2), .second, .val (.long p3), .second, .val (.int p4), .val (.ref b1), .val (.ref b10), .val (.int md), .val (.ref b1), .val (.int sv), .val (.int (own_cmp p1 p3))] [(.long p1)])) _
            refine XS.lload X232.here hx rfl (hb hby at_168) rfl ?_
            show Steps p.tables e below (T232.setTop (mkF m 170 #[.val (.long p1), .second, .val (.long p2), .second, .val (.long p3), .second, .val (.int p4), .val (.ref b1), .val (.ref b10), .val (.int md), .val (.ref b1), .val (.int sv), .val (.int (own_cmp p1 p3))] [(.long p3), (.long p1)])) _
            refine XS.lcmp X232.here hx rfl (hb hby at_170) rfl ?_
            exact k)
        by_cases hlt : p1 < p3
        ·
          have J236 : ∀ t, Steps p.tables e below (T232.setTop (mkF m 184 #[.val (.long p1), .second, .val (.long p2), .second, .val (.long p3), .second, .val (.int p4), .val (.ref b1), .val (.ref b10), .val (.int md), .val (.ref b1), .val (.int sv), .val (.int (own_cmp p1 p3))] [(.int (1 : Int32))])) t → Steps p.tables e below (s₁.setTop (entryFrame m #[(.long p1), (.long p2), (.long p3), (.int p4)] maxLocals)) t := fun t k => J235 t (by
              show Steps p.tables e below (T232.setTop (mkF m 171 #[.val (.long p1), .second, .val (.long p2), .second, .val (.long p3), .second, .val (.int p4), .val (.ref b1), .val (.ref b10), .val (.int md), .val (.ref b1), .val (.int sv), .val (.int (own_cmp p1 p3))] [(.int (lcmpW p1 p3))])) _
              refine XS.ifNo X232.here hx rfl (hb hby at_171) rfl ((if0 _ _).trans (tlt (by rw [own_l1 hlt]; decide)).2.1) ?_
              show Steps p.tables e below (T232.setTop (mkF m 174 #[.val (.long p1), .second, .val (.long p2), .second, .val (.long p3), .second, .val (.int p4), .val (.ref b1), .val (.ref b10), .val (.int md), .val (.ref b1), .val (.int sv), .val (.int (own_cmp p1 p3))] [])) _
              refine XS.iload X232.here hx rfl (hb hby at_174) rfl ?_
              show Steps p.tables e below (T232.setTop (mkF m 176 #[.val (.long p1), .second, .val (.long p2), .second, .val (.long p3), .second, .val (.int p4), .val (.ref b1), .val (.ref b10), .val (.int md), .val (.ref b1), .val (.int sv), .val (.int (own_cmp p1 p3))] [(.int (own_cmp p1 p3))])) _
              refine XS.ifNo X232.here hx rfl (hb hby at_176) rfl ((if0 _ _).trans (tlt (by rw [own_c1 hlt]; decide)).2.1) ?_
              show Steps p.tables e below (T232.setTop (mkF m 179 #[.val (.long p1), .second, .val (.long p2), .second, .val (.long p3), .second, .val (.int p4), .val (.ref b1), .val (.ref b10), .val (.int md), .val (.ref b1), .val (.int sv), .val (.int (own_cmp p1 p3))] [])) _
              refine XS.iconst X232.here hx rfl (hb hby at_179) ?_
              show Steps p.tables e below (T232.setTop (mkF m 180 #[.val (.long p1), .second, .val (.long p2), .second, .val (.long p3), .second, .val (.int p4), .val (.ref b1), .val (.ref b10), .val (.int md), .val (.ref b1), .val (.int sv), .val (.int (own_cmp p1 p3))] [(.int (1 : Int32))])) _
              refine XS.goto X232.here hx rfl (pc0 := 180) (pc' := 184) rfl (hb hby at_180) (by decide) (by decide) ?_
              exact k)
          obtain ⟨fs, hr, hrun, hended, hWW⟩ := X232.leaveW hSi (by rw [e232]; exact kz) (v := some (.int (1 : Int32))) (fun h => by rw [Bd.returns] at h; cases h)
          refine ⟨_, _, J236 _ ?_, hrun, hended, _, _, rfl, ?_, hWW.1, hWW.2.1, hWW.2.2.1, hWW.2.2.2.mono (by decide) (by decide)⟩
          · show Steps p.tables e below (T232.setTop (mkF m 184 #[.val (.long p1), .second, .val (.long p2), .second, .val (.long p3), .second, .val (.int p4), .val (.ref b1), .val (.ref b10), .val (.int md), .val (.ref b1), .val (.int sv), .val (.int (own_cmp p1 p3))] [(.int (1 : Int32))])) _
            exact retN X232 hx (t := .boolean) Bd.returns (by simp) (hb hby at_184) hr
          · show Q0 Z p1 p2 p3 p4 h0 n0 _ T232.heap _
            rw [e232]
            exact ⟨rfl, N233⟩
        ·
          have J237 : ∀ t, Steps p.tables e below (T232.setTop (mkF m 189 #[.val (.long p1), .second, .val (.long p2), .second, .val (.long p3), .second, .val (.int p4), .val (.ref b1), .val (.ref b10), .val (.int md), .val (.ref b1), .val (.int sv), .val (.int (own_cmp p1 p3))] [(.int (lcmpW p1 p3))])) t → Steps p.tables e below (s₁.setTop (entryFrame m #[(.long p1), (.long p2), (.long p3), (.int p4)] maxLocals)) t := fun t k => J235 t (by
              show Steps p.tables e below (T232.setTop (mkF m 171 #[.val (.long p1), .second, .val (.long p2), .second, .val (.long p3), .second, .val (.int p4), .val (.ref b1), .val (.ref b10), .val (.int md), .val (.ref b1), .val (.int sv), .val (.int (own_cmp p1 p3))] [(.int (lcmpW p1 p3))])) _
              refine XS.ifYes X232.here hx rfl (pc0 := 171) (pc' := 185) rfl (hb hby at_171) rfl ((if0 _ _).trans (flt (own_n1 hlt)).2.1) (by decide) (by decide) ?_
              show Steps p.tables e below (T232.setTop (mkF m 185 #[.val (.long p1), .second, .val (.long p2), .second, .val (.long p3), .second, .val (.int p4), .val (.ref b1), .val (.ref b10), .val (.int md), .val (.ref b1), .val (.int sv), .val (.int (own_cmp p1 p3))] [])) _
              refine XS.lloadN X232.here hx rfl (hb hby at_185) rfl ?_
              show Steps p.tables e below (T232.setTop (mkF m 186 #[.val (.long p1), .second, .val (.long p2), .second, .val (.long p3), .second, .val (.int p4), .val (.ref b1), .val (.ref b10), .val (.int md), .val (.ref b1), .val (.int sv), .val (.int (own_cmp p1 p3))] [(.long p1)])) _
              refine XS.lload X232.here hx rfl (hb hby at_186) rfl ?_
              show Steps p.tables e below (T232.setTop (mkF m 188 #[.val (.long p1), .second, .val (.long p2), .second, .val (.long p3), .second, .val (.int p4), .val (.ref b1), .val (.ref b10), .val (.int md), .val (.ref b1), .val (.int sv), .val (.int (own_cmp p1 p3))] [(.long p3), (.long p1)])) _
              refine XS.lcmp X232.here hx rfl (hb hby at_188) rfl ?_
              exact k)
          by_cases hgt : p3 < p1
          ·
            have J238 : ∀ t, Steps p.tables e below (T232.setTop (mkF m 202 #[.val (.long p1), .second, .val (.long p2), .second, .val (.long p3), .second, .val (.int p4), .val (.ref b1), .val (.ref b10), .val (.int md), .val (.ref b1), .val (.int sv), .val (.int (own_cmp p1 p3))] [(.int (1 : Int32))])) t → Steps p.tables e below (s₁.setTop (entryFrame m #[(.long p1), (.long p2), (.long p3), (.int p4)] maxLocals)) t := fun t k => J237 t (by
                show Steps p.tables e below (T232.setTop (mkF m 189 #[.val (.long p1), .second, .val (.long p2), .second, .val (.long p3), .second, .val (.int p4), .val (.ref b1), .val (.ref b10), .val (.int md), .val (.ref b1), .val (.int sv), .val (.int (own_cmp p1 p3))] [(.int (lcmpW p1 p3))])) _
                refine XS.ifNo X232.here hx rfl (hb hby at_189) rfl ((if0 _ _).trans (tlt (by rw [own_l2 hgt]; decide)).2.2.2) ?_
                show Steps p.tables e below (T232.setTop (mkF m 192 #[.val (.long p1), .second, .val (.long p2), .second, .val (.long p3), .second, .val (.int p4), .val (.ref b1), .val (.ref b10), .val (.int md), .val (.ref b1), .val (.int sv), .val (.int (own_cmp p1 p3))] [])) _
                refine XS.iload X232.here hx rfl (hb hby at_192) rfl ?_
                show Steps p.tables e below (T232.setTop (mkF m 194 #[.val (.long p1), .second, .val (.long p2), .second, .val (.long p3), .second, .val (.int p4), .val (.ref b1), .val (.ref b10), .val (.int md), .val (.ref b1), .val (.int sv), .val (.int (own_cmp p1 p3))] [(.int (own_cmp p1 p3))])) _
                refine XS.ifNo X232.here hx rfl (hb hby at_194) rfl ((if0 _ _).trans (tlt (by rw [own_c2 hgt]; decide)).2.2.2) ?_
                show Steps p.tables e below (T232.setTop (mkF m 197 #[.val (.long p1), .second, .val (.long p2), .second, .val (.long p3), .second, .val (.int p4), .val (.ref b1), .val (.ref b10), .val (.int md), .val (.ref b1), .val (.int sv), .val (.int (own_cmp p1 p3))] [])) _
                refine XS.iconst X232.here hx rfl (hb hby at_197) ?_
                show Steps p.tables e below (T232.setTop (mkF m 198 #[.val (.long p1), .second, .val (.long p2), .second, .val (.long p3), .second, .val (.int p4), .val (.ref b1), .val (.ref b10), .val (.int md), .val (.ref b1), .val (.int sv), .val (.int (own_cmp p1 p3))] [(.int (1 : Int32))])) _
                refine XS.goto X232.here hx rfl (pc0 := 198) (pc' := 202) rfl (hb hby at_198) (by decide) (by decide) ?_
                exact k)
            obtain ⟨fs, hr, hrun, hended, hWW⟩ := X232.leaveW hSi (by rw [e232]; exact kz) (v := some (.int (1 : Int32))) (fun h => by rw [Bd.returns] at h; cases h)
            refine ⟨_, _, J238 _ ?_, hrun, hended, _, _, rfl, ?_, hWW.1, hWW.2.1, hWW.2.2.1, hWW.2.2.2.mono (by decide) (by decide)⟩
            · show Steps p.tables e below (T232.setTop (mkF m 202 #[.val (.long p1), .second, .val (.long p2), .second, .val (.long p3), .second, .val (.int p4), .val (.ref b1), .val (.ref b10), .val (.int md), .val (.ref b1), .val (.int sv), .val (.int (own_cmp p1 p3))] [(.int (1 : Int32))])) _
              exact retN X232 hx (t := .boolean) Bd.returns (by simp) (hb hby at_202) hr
            · show Q0 Z p1 p2 p3 p4 h0 n0 _ T232.heap _
              rw [e232]
              exact ⟨rfl, N233⟩
          ·
            have J239 : ∀ t, Steps p.tables e below (T232.setTop (mkF m 213 #[.val (.long p1), .second, .val (.long p2), .second, .val (.long p3), .second, .val (.int p4), .val (.ref b1), .val (.ref b10), .val (.int md), .val (.ref b1), .val (.int sv), .val (.int (own_cmp p1 p3))] [(.int (1 : Int32))])) t → Steps p.tables e below (s₁.setTop (entryFrame m #[(.long p1), (.long p2), (.long p3), (.int p4)] maxLocals)) t := fun t k => J237 t (by
                show Steps p.tables e below (T232.setTop (mkF m 189 #[.val (.long p1), .second, .val (.long p2), .second, .val (.long p3), .second, .val (.int p4), .val (.ref b1), .val (.ref b10), .val (.int md), .val (.ref b1), .val (.int sv), .val (.int (own_cmp p1 p3))] [(.int (lcmpW p1 p3))])) _
                refine XS.ifYes X232.here hx rfl (pc0 := 189) (pc' := 203) rfl (hb hby at_189) rfl ((if0 _ _).trans (flt (own_n2 hgt)).2.2.2) (by decide) (by decide) ?_
                show Steps p.tables e below (T232.setTop (mkF m 203 #[.val (.long p1), .second, .val (.long p2), .second, .val (.long p3), .second, .val (.int p4), .val (.ref b1), .val (.ref b10), .val (.int md), .val (.ref b1), .val (.int sv), .val (.int (own_cmp p1 p3))] [])) _
                refine XS.iload X232.here hx rfl (hb hby at_203) rfl ?_
                show Steps p.tables e below (T232.setTop (mkF m 205 #[.val (.long p1), .second, .val (.long p2), .second, .val (.long p3), .second, .val (.int p4), .val (.ref b1), .val (.ref b10), .val (.int md), .val (.ref b1), .val (.int sv), .val (.int (own_cmp p1 p3))] [(.int (own_cmp p1 p3))])) _
                refine XS.ifNo X232.here hx rfl (hb hby at_205) rfl ((if0 _ _).trans (teq (own_c3 hlt hgt)).2) ?_
                show Steps p.tables e below (T232.setTop (mkF m 208 #[.val (.long p1), .second, .val (.long p2), .second, .val (.long p3), .second, .val (.int p4), .val (.ref b1), .val (.ref b10), .val (.int md), .val (.ref b1), .val (.int sv), .val (.int (own_cmp p1 p3))] [])) _
                refine XS.iconst X232.here hx rfl (hb hby at_208) ?_
                show Steps p.tables e below (T232.setTop (mkF m 209 #[.val (.long p1), .second, .val (.long p2), .second, .val (.long p3), .second, .val (.int p4), .val (.ref b1), .val (.ref b10), .val (.int md), .val (.ref b1), .val (.int sv), .val (.int (own_cmp p1 p3))] [(.int (1 : Int32))])) _
                refine XS.goto X232.here hx rfl (pc0 := 209) (pc' := 213) rfl (hb hby at_209) (by decide) (by decide) ?_
                exact k)
            obtain ⟨fs, hr, hrun, hended, hWW⟩ := X232.leaveW hSi (by rw [e232]; exact kz) (v := some (.int (1 : Int32))) (fun h => by rw [Bd.returns] at h; cases h)
            refine ⟨_, _, J239 _ ?_, hrun, hended, _, _, rfl, ?_, hWW.1, hWW.2.1, hWW.2.2.1, hWW.2.2.2.mono (by decide) (by decide)⟩
            · show Steps p.tables e below (T232.setTop (mkF m 213 #[.val (.long p1), .second, .val (.long p2), .second, .val (.long p3), .second, .val (.int p4), .val (.ref b1), .val (.ref b10), .val (.int md), .val (.ref b1), .val (.int sv), .val (.int (own_cmp p1 p3))] [(.int (1 : Int32))])) _
              exact retN X232 hx (t := .boolean) Bd.returns (by simp) (hb hby at_213) hr
            · show Q0 Z p1 p2 p3 p4 h0 n0 _ T232.heap _
              rw [e232]
              exact ⟨rfl, N233⟩
set_option maxRecDepth 65536 in
set_option maxHeartbeats 40000000 in
theorem comes_1 {Post : Tables → Env → Array Value → State → Outcome → State → Prop} (hpost : ∀ tb e args s v u, (limb_1_1.after args s (.returned v) u = true ∧ limb_1_2.after args s (.returned v) u = true ∧ True) → ReturnedEndW s (.returned v) u (Jvm.fieldLocs frame_1_writes args s ++ Jvm.arrayLocs frame_1_arrays args s ++ Jvm.staticLocs frame_1_statics s) 32 6720 → Post tb e args s (.returned v) u) :
    ArmFor flags0 classFile x code maxLocals ret World_1 tables_1 room_1 Calls_1 rest_1 Pre_1 Post := by
  intro l hfl _ _ p e ha hc hk s m args below hf hA hF happ hP
  obtain ⟨hcalls, hrest, hpre⟩ := hP
  obtain ⟨-, -, -, hnamed, -, -, -, hat⟩ := (Spec.applies_iff hf).mp happ
  obtain ⟨hg, hn⟩ := and_e (Cond.before_iff.mp (show (Jvm.Cond.and given_1 narrow_1).before args s = true from hpre))
  obtain ⟨hcount, hg0⟩ := and_e hg
  obtain ⟨ga0, hg1⟩ := and_e hg0
  obtain ⟨ga1, hg2⟩ := and_e hg1
  obtain ⟨ga2, hg3⟩ := and_e hg2
  obtain ⟨w0, w1, w2, w3, rfl⟩ : ∃ w0 w1 w2 w3 : Value, args = #[w0, w1, w2, w3] := by
    have hs : args.size = 4 := by simpa [Cond.value, given_1] using hcount
    obtain ⟨L⟩ := args
    match L, hs with
    | [w0, w1, w2, w3], _ => exact ⟨w0, w1, w2, w3, rfl⟩
  have hw := fun d (hd : d ∈ tables_1) => atoms_spec (ws := Jvm.Cond.code x code maxLocals ret :: tables_1) hat d (List.mem_cons_of_mem _ hd)
  have hfit : Fit s := fun {y c} hc i hi => by
    obtain ⟨ha, rfl⟩ := Array.getElem?_eq_some_iff.mp hc
    have q := List.all_eq_true.mp ((Array.all_eq_true_iff_forall_mem.mp hF) _ (Array.getElem_mem ha)) i (List.mem_range.mpr hi)
    simpa [Array.getElem?_eq_getElem hi] using q
  obtain ⟨hsets, hown0⟩ := atoms_of _ (rest_1_c_eq ▸ (show rest_1_c.before _ s = true from hrest))
  obtain ⟨i0, ei0⟩ := isL_v ga0
  obtain rfl : w0 = (.long i0) := Option.some.inj ei0
  obtain ⟨i1, ei1⟩ := isL_v ga1
  obtain rfl : w1 = (.long i1) := Option.some.inj ei1
  obtain ⟨i2, ei2⟩ := isL_v ga2
  obtain rfl : w2 = (.long i2) := Option.some.inj ei2
  obtain ⟨i3, ei3⟩ := is_v hg3
  obtain rfl : w3 = (.int i3) := Option.some.inj ei3
  have hl : l.stackTraces = true := by unfold Launch.stackTraces; rw [hfl]; decide
  obtain ⟨n, o, h1, h2, h3, _, L, rfl, ⟨rfl, N⟩, hq⟩ := rm0 l hl s _ hw tables_1 i0 i1 i2 i3 s.heap s.heap.size (Nat.le_refl _) (Old.start s) (own_th hsets) hcalls.2.2.1 p e ha hc hk s m _ below hf ((Spec.applies_iff_loose hf).mp happ).1 ⟨rfl, State.Warmed39.refl s, rfl⟩ ⟨MethodsKnown_of_tablesKnown hcalls.2.1, FramesKnown_of_framesKnown hcalls.1 hf⟩
  refine ⟨n, _, h1, h2, h3, hpost _ _ _ _ _ _ ⟨Cond.after_iff.mpr rfl, Cond.after_iff.mpr (eq_i res_at (Term.int_eval (1)) rfl), trivial⟩ ⟨hq.1, hq.2.1, hq.2.2.1, (hq.2.2.2.sift fun y hy => Or.inr (N y hy)).mono (by decide) (by decide)⟩⟩
theorem main_1_1 : Claimed_1_1 := comes_1 fun _ _ _ _ _ _ h hF => ⟨h.1, hF⟩
theorem main_1_2 : Claimed_1_2 := comes_1 fun _ _ _ _ _ _ h hF => ⟨h.2.1, hF⟩
end Jvm.Pilot.@@N@@
namespace Jvm.Pilot.@@N@@
open Jvm Jvm.ClassFile Sem Op Lib Jvm.Free Jvm.Stand Jvm.Pilot.@@N@@.Jvm.D
/-! MADE BY PROGRAM (witnessworld.py) out of the Statement's table words and the real class files: 37 classes; the members and pool entries that the words name. The judged class is class 1, her method 1. -/
namespace start1
open Jvm.ClassFile
def u (s : String) : CpInfo := .utf8 (stringToUtf16 s)
/-- a pool by its gaps: so many unusable entries, then the entry; so many at the end -/
def gap : Nat → List CpInfo → List CpInfo
  | 0, r => r
  | n + 1, r => .unusable :: gap n r
def poolList (es : List (Nat × CpInfo)) (last : Nat) : List CpInfo := es.foldr (fun e r => gap e.1 (e.2 :: r)) (gap last [])
def pool (es : List (Nat × CpInfo)) (last : Nat) : Array CpInfo := ⟨poolList es last⟩
def fileOf (pool : Array CpInfo) (this : Nat) (attrs : Array Attribute := #[]) (ms : Array MethodInfo := #[]) (fl : Nat := 33) (sup : Nat := 0) (ifs : Array Nat := #[]) (fds : Array FieldInfo := #[]) : ClassFile where
  minorVersion := 0
  majorVersion := 65
  constantPool := pool
  accessFlags := fl
  thisClass := this
  superClass := sup
  interfaces := ifs
  fields := fds
  methods := ms
  attributes := attrs
def plain (name : String) (sup : Option ClassId) : Class where
  name := name
  kind := .ordinary
  loader := none
  accessFlags := 33
  super := sup
  interfaces := #[]
  cf := none
  fields := #[]
  methods := #[]
  instanceTypes := #[]
  staticTypes := #[]
  resolved := #[]
  callSites := []
  init := .initialized
  statics := none
  mirror := none

def pool0 : Array CpInfo := pool [(5, u "<init>"), (0, u "()V"), (1, .class_ 10), (1, u "java/lang/Object"), (0, u "getClass"), (0, u "()Ljava/lang/Class;")] 111

def k0c0 : Code := { maxStack := 0, maxLocals := 1, code := object_method_1_code, exceptionTable := #[], attributes := #[] }
def k0m0 : Method := { name := "<init>", desc := "()V", sig := { parameters := [], returnType := none }, accessFlags := 1, code := some k0c0 }
def k0m1 : Method := { name := "getClass", desc := "()Ljava/lang/Class;", sig := { parameters := [], returnType := some (.object "java/lang/Class") }, accessFlags := 273, code := none }
/-- java/lang/Object -/
def k0 : Class := { plain "java/lang/Object" none with
  accessFlags := 33
  interfaces := #[]
  cf := some (fileOf pool0 8 #[] #[{ accessFlags := 1, nameIndex := 5, descriptorIndex := 6, attributes := #[] }, { accessFlags := 273, nameIndex := 11, descriptorIndex := 12, attributes := #[] }] 33 0 #[] #[])
  fields := #[]
  methods := #[k0m0, k0m1]
  instanceTypes := #[]
  staticTypes := #[]
  resolved := Array.replicate 124 none
  statics := none }

def pool1 : Array CpInfo := pool [(2, .class_ 4), (0, .nameAndType 5 6), (0, u "java/lang/Object"), (0, u "<init>"), (0, u "()V"), (0, .class_ 8), (0, u "com/example/tranche/tranche/model/Amount"), (0, .methodref 7 3), (0, .methodref 7 11), (0, .nameAndType 12 13), (0, u "set"), (0, u "(J)Lcom/example/tranche/tranche/model/Amount;"), (2, .long 9223372036854775807), (1, .methodref 7 19), (0, .nameAndType 20 21), (0, u "add"), (0, u "(Lcom/example/tranche/tranche/model/Amount;)Lcom/example/tranche/tranche/model/Amount;"), (0, .methodref 7 23), (0, .nameAndType 24 25), (0, u "inCents"), (0, u "()Z"), (0, .methodref 7 27), (0, .nameAndType 28 29), (0, u "cents"), (0, u "()J"), (0, .methodref 7 31), (0, .nameAndType 32 33), (0, u "signum"), (0, u "()I"), (0, .methodref 7 35), (0, .nameAndType 36 37), (0, u "compareTo"), (0, u "(Lcom/example/tranche/tranche/model/Amount;)I"), (0, .class_ 39), (0, u "com/example/tranche/tranche/model/AmountSetPinLaw"), (2, u "law"), (0, u "(JJJI)Z")] 3

def k1m0 : Method := { name := "<init>", desc := "()V", sig := { parameters := [], returnType := none }, accessFlags := 2, code := none }
def k1c1 : Code := { maxStack := 4, maxLocals := 13, code := code, exceptionTable := #[], attributes := #[] }
def k1m1 : Method := { name := "law", desc := "(JJJI)Z", sig := { parameters := [.long, .long, .long, .int], returnType := some .boolean }, accessFlags := 9, code := some k1c1 }
/-- com/example/tranche/tranche/model/AmountSetPinLaw -/
def k1 : Class := { plain "com/example/tranche/tranche/model/AmountSetPinLaw" (some 0) with
  accessFlags := 49
  interfaces := #[]
  cf := some (fileOf pool1 38 #[] #[{ accessFlags := 2, nameIndex := 5, descriptorIndex := 6, attributes := #[] }, { accessFlags := 9, nameIndex := 42, descriptorIndex := 43, attributes := #[] }] 49 2 #[] #[])
  fields := #[]
  methods := #[k1m0, k1m1]
  instanceTypes := #[]
  staticTypes := #[]
  resolved := Array.replicate 47 none
  statics := none }

def pool2 : Array CpInfo := pool [(1, .class_ 2), (0, u "java/lang/Comparable"), (0, .class_ 4), (0, u "java/lang/Object")] 7

/-- java/lang/Comparable -/
def k2 : Class := { plain "java/lang/Comparable" (some 0) with
  accessFlags := 1537
  interfaces := #[]
  cf := some (fileOf pool2 1 #[] #[] 1537 3 #[] #[])
  fields := #[]
  methods := #[]
  instanceTypes := #[]
  staticTypes := #[]
  resolved := Array.replicate 12 none
  statics := none }

def pool3 : Array CpInfo := pool [(1, .methodref 2 3), (0, .class_ 4), (0, .nameAndType 5 6), (0, u "java/lang/Object"), (0, u "<init>"), (0, u "()V"), (0, .fieldref 8 9), (0, .class_ 10), (0, .nameAndType 11 12), (0, u "com/example/tranche/tranche/model/Amount"), (0, u "cents"), (0, u "J"), (0, .fieldref 8 14), (0, .nameAndType 15 16), (0, u "wide"), (0, u "Ljava/math/BigDecimal;"), (0, .methodref 18 19), (0, .class_ 20), (0, .nameAndType 21 22), (0, u "java/math/BigDecimal"), (0, u "scale"), (0, u "()I"), (2, .methodref 18 26), (0, .nameAndType 27 28), (0, u "unscaledValue"), (0, u "()Ljava/math/BigInteger;"), (0, .methodref 30 31), (0, .class_ 32), (0, .nameAndType 33 22), (0, u "java/math/BigInteger"), (0, u "bitLength"), (0, .class_ 35), (0, u "java/lang/Long"), (3, u "()J"), (0, .methodref 8 41), (0, .nameAndType 42 43), (0, u "set"), (0, u "(J)Lcom/example/tranche/tranche/model/Amount;"), (0, .methodref 45 46), (0, .class_ 47), (0, .nameAndType 48 49), (0, u "java/lang/Math"), (0, u "addExact"), (0, u "(JJ)J"), (0, .class_ 51), (0, u "java/lang/ArithmeticException"), (0, .methodref 8 53), (0, .nameAndType 54 55), (0, u "toBigDecimal"), (0, u "()Ljava/math/BigDecimal;"), (0, .methodref 18 57), (0, .nameAndType 58 59), (0, u "add"), (0, u "(Ljava/math/BigDecimal;)Ljava/math/BigDecimal;"), (0, .methodref 8 61), (0, .nameAndType 42 62), (0, u "(Ljava/math/BigDecimal;)Lcom/example/tranche/tranche/model/Amount;"), (6, .methodref 34 70), (0, .nameAndType 71 72), (0, u "compare"), (0, u "(JJ)I"), (2, u "compareTo"), (1, .methodref 34 78), (0, .nameAndType 79 80), (0, u "signum"), (0, u "(J)I"), (6, u "valueOf"), (8, .methodref 18 97), (0, .nameAndType 87 98), (0, u "(JI)Ljava/math/BigDecimal;"), (34, u "(Lcom/example/tranche/tranche/model/Amount;)I"), (0, .class_ 135), (0, u "java/lang/Comparable"), (0, u "CENTS_A_UNIT"), (4, u "(Lcom/example/tranche/tranche/model/Amount;)Lcom/example/tranche/tranche/model/Amount;"), (0, u "inCents"), (0, u "()Z")] 21

def k3c0 : Code := { maxStack := 1, maxLocals := 1, code := prog_84_method_1_code, exceptionTable := #[], attributes := #[] }
def k3m0 : Method := { name := "<init>", desc := "()V", sig := { parameters := [], returnType := none }, accessFlags := 1, code := some k3c0 }
def k3c1 : Code := { maxStack := 3, maxLocals := 3, code := prog_84_method_2_code, exceptionTable := #[], attributes := #[] }
def k3m1 : Method := { name := "set", desc := "(J)Lcom/example/tranche/tranche/model/Amount;", sig := { parameters := [.long], returnType := some (.object "com/example/tranche/tranche/model/Amount") }, accessFlags := 1, code := some k3c1 }
def k3c2 : Code := { maxStack := 3, maxLocals := 2, code := prog_84_method_3_code, exceptionTable := #[], attributes := #[] }
def k3m2 : Method := { name := "set", desc := "(Ljava/math/BigDecimal;)Lcom/example/tranche/tranche/model/Amount;", sig := { parameters := [(.object "java/math/BigDecimal")], returnType := some (.object "com/example/tranche/tranche/model/Amount") }, accessFlags := 1, code := some k3c2 }
def k3c3 : Code := { maxStack := 5, maxLocals := 3, code := prog_84_method_5_code, exceptionTable := #[{ startPc := 14, endPc := 29, handlerPc := 30, catchType := 50 }], attributes := #[] }
def k3m3 : Method := { name := "add", desc := "(Lcom/example/tranche/tranche/model/Amount;)Lcom/example/tranche/tranche/model/Amount;", sig := { parameters := [(.object "com/example/tranche/tranche/model/Amount")], returnType := some (.object "com/example/tranche/tranche/model/Amount") }, accessFlags := 1, code := some k3c3 }
def k3c4 : Code := { maxStack := 4, maxLocals := 2, code := prog_84_method_7_code, exceptionTable := #[], attributes := #[] }
def k3m4 : Method := { name := "compareTo", desc := "(Lcom/example/tranche/tranche/model/Amount;)I", sig := { parameters := [(.object "com/example/tranche/tranche/model/Amount")], returnType := some .int }, accessFlags := 1, code := some k3c4 }
def k3c5 : Code := { maxStack := 2, maxLocals := 1, code := prog_84_method_8_code, exceptionTable := #[], attributes := #[] }
def k3m5 : Method := { name := "signum", desc := "()I", sig := { parameters := [], returnType := some .int }, accessFlags := 1, code := some k3c5 }
def k3c6 : Code := { maxStack := 1, maxLocals := 1, code := prog_84_method_9_code, exceptionTable := #[], attributes := #[] }
def k3m6 : Method := { name := "inCents", desc := "()Z", sig := { parameters := [], returnType := some .boolean }, accessFlags := 1, code := some k3c6 }
def k3c7 : Code := { maxStack := 3, maxLocals := 1, code := prog_84_method_10_code, exceptionTable := #[], attributes := #[] }
def k3m7 : Method := { name := "cents", desc := "()J", sig := { parameters := [], returnType := some .long }, accessFlags := 1, code := some k3c7 }
def k3c8 : Code := { maxStack := 3, maxLocals := 1, code := prog_84_method_11_code, exceptionTable := #[], attributes := #[] }
def k3m8 : Method := { name := "toBigDecimal", desc := "()Ljava/math/BigDecimal;", sig := { parameters := [], returnType := some (.object "java/math/BigDecimal") }, accessFlags := 1, code := some k3c8 }
/-- com/example/tranche/tranche/model/Amount -/
def k3 : Class := { plain "com/example/tranche/tranche/model/Amount" (some 0) with
  accessFlags := 49
  interfaces := #[2]
  cf := some (fileOf pool3 8 #[] #[{ accessFlags := 1, nameIndex := 5, descriptorIndex := 6, attributes := #[] }, { accessFlags := 1, nameIndex := 42, descriptorIndex := 43, attributes := #[] }, { accessFlags := 1, nameIndex := 42, descriptorIndex := 62, attributes := #[] }, { accessFlags := 1, nameIndex := 58, descriptorIndex := 141, attributes := #[] }, { accessFlags := 1, nameIndex := 75, descriptorIndex := 133, attributes := #[] }, { accessFlags := 1, nameIndex := 79, descriptorIndex := 22, attributes := #[] }, { accessFlags := 1, nameIndex := 142, descriptorIndex := 143, attributes := #[] }, { accessFlags := 1, nameIndex := 11, descriptorIndex := 39, attributes := #[] }, { accessFlags := 1, nameIndex := 54, descriptorIndex := 55, attributes := #[] }] 49 2 #[134] #[{ accessFlags := 26, nameIndex := 136, descriptorIndex := 12, attributes := #[] }, { accessFlags := 2, nameIndex := 11, descriptorIndex := 12, attributes := #[] }, { accessFlags := 2, nameIndex := 15, descriptorIndex := 16, attributes := #[] }])
  fields := #[{ name := "CENTS_A_UNIT", type := .long, accessFlags := 26, slot := 0, constantValue := 0 }, { name := "cents", type := .long, accessFlags := 2, slot := 0, constantValue := 0 }, { name := "wide", type := (.object "java/math/BigDecimal"), accessFlags := 2, slot := 1, constantValue := 0 }]
  methods := #[k3m0, k3m1, k3m2, k3m3, k3m4, k3m5, k3m6, k3m7, k3m8]
  instanceTypes := #[.long, (.object "java/math/BigDecimal")]
  staticTypes := #[.long]
  resolved := Array.replicate 165 none
  statics := none }

def pool4 : Array CpInfo := pool [(1, .class_ 2), (0, u "java/lang/Math"), (1, .class_ 6), (1, u "java/lang/Object"), (0, u "<init>"), (0, u "()V"), (89, .class_ 100), (1, u "java/lang/Math$RandomNumberGeneratorHolder"), (8, .class_ 110), (0, u "java/lang/ArithmeticException"), (2, .methodref 109 114), (0, .nameAndType 7 115), (0, u "(Ljava/lang/String;)V"), (0, .string 117), (0, u "long overflow"), (3, u "(JJ)J"), (2, u "abs"), (0, u "(J)J"), (46, u "negativeZeroFloatBits"), (0, u "J"), (2, u "negativeZeroDoubleBits"), (68, u "$assertionsDisabled"), (0, u "Z"), (91, u "twoToTheDoubleScaleDown"), (0, u "D"), (4, u "twoToTheDoubleScaleUp"), (9, u "E"), (3, u "PI"), (2, u "TAU"), (2, u "DEGREES_TO_RADIANS"), (0, u "RADIANS_TO_DEGREES"), (27, u "addExact")] 66

def k4m0 : Method := { name := "<init>", desc := "()V", sig := { parameters := [], returnType := none }, accessFlags := 2, code := none }
def k4c1 : Code := { maxStack := 6, maxLocals := 6, code := jdk_29_method_25_code, exceptionTable := #[], attributes := #[] }
def k4m1 : Method := { name := "addExact", desc := "(JJ)J", sig := { parameters := [.long, .long], returnType := some .long }, accessFlags := 9, code := some k4c1 }
def k4c2 : Code := { maxStack := 4, maxLocals := 2, code := jdk_29_method_61_code, exceptionTable := #[], attributes := #[] }
def k4m2 : Method := { name := "abs", desc := "(J)J", sig := { parameters := [.long], returnType := some .long }, accessFlags := 9, code := some k4c2 }
/-- java/lang/Math -/
def k4 : Class := { plain "java/lang/Math" (some 0) with
  accessFlags := 49
  interfaces := #[]
  cf := some (fileOf pool4 1 #[.nestMembers #[98]] #[{ accessFlags := 2, nameIndex := 7, descriptorIndex := 8, attributes := #[] }, { accessFlags := 9, nameIndex := 393, descriptorIndex := 121, attributes := #[] }, { accessFlags := 9, nameIndex := 124, descriptorIndex := 125, attributes := #[] }] 49 4 #[] #[{ accessFlags := 25, nameIndex := 354, descriptorIndex := 339, attributes := #[] }, { accessFlags := 25, nameIndex := 358, descriptorIndex := 339, attributes := #[] }, { accessFlags := 25, nameIndex := 361, descriptorIndex := 339, attributes := #[] }, { accessFlags := 26, nameIndex := 364, descriptorIndex := 339, attributes := #[] }, { accessFlags := 26, nameIndex := 365, descriptorIndex := 339, attributes := #[] }, { accessFlags := 26, nameIndex := 172, descriptorIndex := 173, attributes := #[] }, { accessFlags := 26, nameIndex := 176, descriptorIndex := 173, attributes := #[] }, { accessFlags := 8, nameIndex := 344, descriptorIndex := 339, attributes := #[] }, { accessFlags := 8, nameIndex := 338, descriptorIndex := 339, attributes := #[] }, { accessFlags := 4120, nameIndex := 245, descriptorIndex := 246, attributes := #[] }])
  fields := #[{ name := "E", type := .double, accessFlags := 25, slot := 0, constantValue := 0 }, { name := "PI", type := .double, accessFlags := 25, slot := 1, constantValue := 0 }, { name := "TAU", type := .double, accessFlags := 25, slot := 2, constantValue := 0 }, { name := "DEGREES_TO_RADIANS", type := .double, accessFlags := 26, slot := 3, constantValue := 0 }, { name := "RADIANS_TO_DEGREES", type := .double, accessFlags := 26, slot := 4, constantValue := 0 }, { name := "negativeZeroFloatBits", type := .long, accessFlags := 26, slot := 5, constantValue := 0 }, { name := "negativeZeroDoubleBits", type := .long, accessFlags := 26, slot := 6, constantValue := 0 }, { name := "twoToTheDoubleScaleUp", type := .double, accessFlags := 8, slot := 7, constantValue := 0 }, { name := "twoToTheDoubleScaleDown", type := .double, accessFlags := 8, slot := 8, constantValue := 0 }, { name := "$assertionsDisabled", type := .boolean, accessFlags := 4120, slot := 9, constantValue := 0 }]
  methods := #[k4m0, k4m1, k4m2]
  instanceTypes := #[]
  staticTypes := #[.double, .double, .double, .double, .double, .long, .long, .double, .double, .boolean]
  resolved := Array.replicate 460 none
  statics := none }

def pool5 : Array CpInfo := pool [(1, .class_ 2), (0, u "java/io/Serializable"), (0, .class_ 4), (0, u "java/lang/Object")] 2

/-- java/io/Serializable -/
def k5 : Class := { plain "java/io/Serializable" (some 0) with
  accessFlags := 1537
  interfaces := #[]
  cf := some (fileOf pool5 1 #[] #[] 1537 3 #[] #[])
  fields := #[]
  methods := #[]
  instanceTypes := #[]
  staticTypes := #[]
  resolved := Array.replicate 7 none
  statics := none }

def pool6 : Array CpInfo := pool [(1, .methodref 2 3), (0, .class_ 4), (0, .nameAndType 5 6), (0, u "java/lang/Object"), (0, u "<init>"), (0, u "()V"), (0, .fieldref 8 9), (0, .class_ 10), (0, .nameAndType 11 12), (0, u "java/lang/Throwable"), (0, u "cause"), (0, u "Ljava/lang/Throwable;"), (0, .fieldref 8 14), (0, .nameAndType 15 16), (0, u "UNASSIGNED_STACK"), (0, u "[Ljava/lang/StackTraceElement;"), (0, .fieldref 8 18), (0, .nameAndType 19 16), (0, u "stackTrace"), (0, .fieldref 8 21), (0, .nameAndType 22 23), (0, u "SUPPRESSED_SENTINEL"), (0, u "Ljava/util/List;"), (0, .fieldref 8 25), (0, .nameAndType 26 23), (0, u "suppressedExceptions"), (0, .methodref 8 28), (0, .nameAndType 29 30), (0, u "fillInStackTrace"), (0, u "()Ljava/lang/Throwable;"), (0, .fieldref 8 32), (0, .nameAndType 33 34), (0, u "detailMessage"), (0, u "Ljava/lang/String;"), (58, .class_ 94), (0, u "java/lang/Throwable$WrappedPrintStream"), (6, .class_ 103), (1, u "java/lang/Throwable$PrintStreamOrWriter"), (61, u "$assertionsDisabled"), (0, u "Z"), (26, .class_ 194), (0, u "java/lang/Throwable$WrappedPrintWriter"), (3, .fieldref 8 199), (0, .nameAndType 200 201), (0, u "backtrace"), (0, u "Ljava/lang/Object;"), (0, .methodref 8 203), (0, .nameAndType 29 204), (0, u "(I)Ljava/lang/Throwable;"), (6, u "depth"), (0, u "I"), (10, u "(Ljava/lang/String;)V"), (45, .class_ 271), (1, u "java/lang/Throwable$SentinelHolder"), (32, u "EMPTY_THROWABLE_ARRAY"), (0, u "[Ljava/lang/Throwable;"), (12, .class_ 319), (0, u "java/io/Serializable"), (0, u "serialVersionUID"), (0, u "J"), (5, u "NULL_CAUSE_MESSAGE"), (0, u "SELF_SUPPRESSION_MESSAGE"), (0, u "CAUSE_CAPTION"), (0, u "SUPPRESSED_CAPTION")] 73

def k6c0 : Code := { maxStack := 2, maxLocals := 1, code := jdk_78_method_1_code, exceptionTable := #[], attributes := #[] }
def k6m0 : Method := { name := "<init>", desc := "()V", sig := { parameters := [], returnType := none }, accessFlags := 1, code := some k6c0 }
def k6c1 : Code := { maxStack := 2, maxLocals := 2, code := jdk_78_method_2_code, exceptionTable := #[], attributes := #[] }
def k6m1 : Method := { name := "<init>", desc := "(Ljava/lang/String;)V", sig := { parameters := [(.object "java/lang/String")], returnType := none }, accessFlags := 1, code := some k6c1 }
def k6c2 : Code := { maxStack := 2, maxLocals := 1, code := ⟨#[0x2a, 0xb4, 0x00, 0x11, 0xc7, 0x00, 0x0a, 0x2a, 0xb4, 0x00, 0xc6, 0xc6, 0x00, 0x10, 0x2a, 0x03, 0xb6, 0x00, 0xca, 0x57, 0x2a, 0xb2, 0x00, 0x0d, 0xb5, 0x00, 0x11, 0x2a, 0xb0]⟩, exceptionTable := #[], attributes := #[] }
def k6m2 : Method := { name := "fillInStackTrace", desc := "()Ljava/lang/Throwable;", sig := { parameters := [], returnType := some (.object "java/lang/Throwable") }, accessFlags := 33, code := some k6c2 }
def k6m3 : Method := { name := "fillInStackTrace", desc := "(I)Ljava/lang/Throwable;", sig := { parameters := [.int], returnType := some (.object "java/lang/Throwable") }, accessFlags := 258, code := none }
/-- java/lang/Throwable -/
def k6 : Class := { plain "java/lang/Throwable" (some 0) with
  accessFlags := 33
  interfaces := #[5]
  cf := some (fileOf pool6 8 #[.nestMembers #[193, 93, 101, 269]] #[{ accessFlags := 1, nameIndex := 5, descriptorIndex := 6, attributes := #[] }, { accessFlags := 1, nameIndex := 5, descriptorIndex := 223, attributes := #[] }, { accessFlags := 33, nameIndex := 29, descriptorIndex := 30, attributes := #[] }, { accessFlags := 258, nameIndex := 29, descriptorIndex := 204, attributes := #[] }] 33 2 #[318] #[{ accessFlags := 26, nameIndex := 320, descriptorIndex := 321, attributes := #[] }, { accessFlags := 130, nameIndex := 200, descriptorIndex := 201, attributes := #[] }, { accessFlags := 2, nameIndex := 33, descriptorIndex := 34, attributes := #[] }, { accessFlags := 26, nameIndex := 15, descriptorIndex := 16, attributes := #[] }, { accessFlags := 2, nameIndex := 11, descriptorIndex := 12, attributes := #[] }, { accessFlags := 2, nameIndex := 19, descriptorIndex := 16, attributes := #[] }, { accessFlags := 130, nameIndex := 211, descriptorIndex := 212, attributes := #[] }, { accessFlags := 26, nameIndex := 22, descriptorIndex := 23, attributes := #[] }, { accessFlags := 2, nameIndex := 26, descriptorIndex := 23, attributes := #[] }, { accessFlags := 26, nameIndex := 327, descriptorIndex := 34, attributes := #[] }, { accessFlags := 26, nameIndex := 328, descriptorIndex := 34, attributes := #[] }, { accessFlags := 26, nameIndex := 329, descriptorIndex := 34, attributes := #[] }, { accessFlags := 26, nameIndex := 330, descriptorIndex := 34, attributes := #[] }, { accessFlags := 26, nameIndex := 304, descriptorIndex := 305, attributes := #[] }, { accessFlags := 4120, nameIndex := 165, descriptorIndex := 166, attributes := #[] }])
  fields := #[{ name := "serialVersionUID", type := .long, accessFlags := 26, slot := 0, constantValue := 0 }, { name := "backtrace", type := (.object "java/lang/Object"), accessFlags := 130, slot := 0, constantValue := 0 }, { name := "detailMessage", type := (.object "java/lang/String"), accessFlags := 2, slot := 1, constantValue := 0 }, { name := "UNASSIGNED_STACK", type := (.array (.object "java/lang/StackTraceElement")), accessFlags := 26, slot := 1, constantValue := 0 }, { name := "cause", type := (.object "java/lang/Throwable"), accessFlags := 2, slot := 2, constantValue := 0 }, { name := "stackTrace", type := (.array (.object "java/lang/StackTraceElement")), accessFlags := 2, slot := 3, constantValue := 0 }, { name := "depth", type := .int, accessFlags := 130, slot := 4, constantValue := 0 }, { name := "SUPPRESSED_SENTINEL", type := (.object "java/util/List"), accessFlags := 26, slot := 2, constantValue := 0 }, { name := "suppressedExceptions", type := (.object "java/util/List"), accessFlags := 2, slot := 5, constantValue := 0 }, { name := "NULL_CAUSE_MESSAGE", type := (.object "java/lang/String"), accessFlags := 26, slot := 3, constantValue := 0 }, { name := "SELF_SUPPRESSION_MESSAGE", type := (.object "java/lang/String"), accessFlags := 26, slot := 4, constantValue := 0 }, { name := "CAUSE_CAPTION", type := (.object "java/lang/String"), accessFlags := 26, slot := 5, constantValue := 0 }, { name := "SUPPRESSED_CAPTION", type := (.object "java/lang/String"), accessFlags := 26, slot := 6, constantValue := 0 }, { name := "EMPTY_THROWABLE_ARRAY", type := (.array (.object "java/lang/Throwable")), accessFlags := 26, slot := 7, constantValue := 0 }, { name := "$assertionsDisabled", type := .boolean, accessFlags := 4120, slot := 8, constantValue := 0 }]
  methods := #[k6m0, k6m1, k6m2, k6m3]
  instanceTypes := #[(.object "java/lang/Object"), (.object "java/lang/String"), (.object "java/lang/Throwable"), (.array (.object "java/lang/StackTraceElement")), .int, (.object "java/util/List")]
  staticTypes := #[.long, (.array (.object "java/lang/StackTraceElement")), (.object "java/util/List"), (.object "java/lang/String"), (.object "java/lang/String"), (.object "java/lang/String"), (.object "java/lang/String"), (.array (.object "java/lang/Throwable")), .boolean]
  resolved := Array.replicate 404 none
  statics := some 0 }

def pool7 : Array CpInfo := pool [(2, .class_ 4), (1, u "java/lang/Throwable"), (0, u "<init>"), (0, u "()V"), (0, .methodref 2 8), (0, .nameAndType 5 9), (0, u "(Ljava/lang/String;)V"), (9, .class_ 20), (0, u "java/lang/Exception"), (0, u "serialVersionUID"), (0, u "J")] 17

def k7m0 : Method := { name := "<init>", desc := "()V", sig := { parameters := [], returnType := none }, accessFlags := 1, code := none }
def k7c1 : Code := { maxStack := 2, maxLocals := 2, code := jdk_59_method_2_code, exceptionTable := #[], attributes := #[] }
def k7m1 : Method := { name := "<init>", desc := "(Ljava/lang/String;)V", sig := { parameters := [(.object "java/lang/String")], returnType := none }, accessFlags := 1, code := some k7c1 }
/-- java/lang/Exception -/
def k7 : Class := { plain "java/lang/Exception" (some 6) with
  accessFlags := 33
  interfaces := #[]
  cf := some (fileOf pool7 19 #[] #[{ accessFlags := 1, nameIndex := 5, descriptorIndex := 6, attributes := #[] }, { accessFlags := 1, nameIndex := 5, descriptorIndex := 9, attributes := #[] }] 33 2 #[] #[{ accessFlags := 24, nameIndex := 21, descriptorIndex := 22, attributes := #[] }])
  fields := #[{ name := "serialVersionUID", type := .long, accessFlags := 24, slot := 0, constantValue := 0 }]
  methods := #[k7m0, k7m1]
  instanceTypes := #[(.object "java/lang/Object"), (.object "java/lang/String"), (.object "java/lang/Throwable"), (.array (.object "java/lang/StackTraceElement")), .int, (.object "java/util/List")]
  staticTypes := #[.long]
  resolved := Array.replicate 40 none
  statics := none }

def pool8 : Array CpInfo := pool [(2, .class_ 4), (1, u "java/lang/Exception"), (0, u "<init>"), (0, u "()V"), (0, .methodref 2 8), (0, .nameAndType 5 9), (0, u "(Ljava/lang/String;)V"), (9, .class_ 20), (0, u "java/lang/RuntimeException"), (0, u "serialVersionUID"), (0, u "J")] 17

def k8m0 : Method := { name := "<init>", desc := "()V", sig := { parameters := [], returnType := none }, accessFlags := 1, code := none }
def k8c1 : Code := { maxStack := 2, maxLocals := 2, code := jdk_58_method_2_code, exceptionTable := #[], attributes := #[] }
def k8m1 : Method := { name := "<init>", desc := "(Ljava/lang/String;)V", sig := { parameters := [(.object "java/lang/String")], returnType := none }, accessFlags := 1, code := some k8c1 }
/-- java/lang/RuntimeException -/
def k8 : Class := { plain "java/lang/RuntimeException" (some 7) with
  accessFlags := 33
  interfaces := #[]
  cf := some (fileOf pool8 19 #[] #[{ accessFlags := 1, nameIndex := 5, descriptorIndex := 6, attributes := #[] }, { accessFlags := 1, nameIndex := 5, descriptorIndex := 9, attributes := #[] }] 33 2 #[] #[{ accessFlags := 24, nameIndex := 21, descriptorIndex := 22, attributes := #[] }])
  fields := #[{ name := "serialVersionUID", type := .long, accessFlags := 24, slot := 0, constantValue := 0 }]
  methods := #[k8m0, k8m1]
  instanceTypes := #[(.object "java/lang/Object"), (.object "java/lang/String"), (.object "java/lang/Throwable"), (.array (.object "java/lang/StackTraceElement")), .int, (.object "java/util/List")]
  staticTypes := #[.long]
  resolved := Array.replicate 40 none
  statics := none }

def pool9 : Array CpInfo := pool [(2, .class_ 4), (1, u "java/lang/RuntimeException"), (0, u "<init>"), (0, u "()V"), (0, .methodref 2 8), (0, .nameAndType 5 9), (0, u "(Ljava/lang/String;)V"), (0, .class_ 11), (0, u "java/lang/ArithmeticException"), (0, u "serialVersionUID"), (0, u "J")] 12

def k9m0 : Method := { name := "<init>", desc := "()V", sig := { parameters := [], returnType := none }, accessFlags := 1, code := none }
def k9c1 : Code := { maxStack := 2, maxLocals := 2, code := jdk_84_method_2_code, exceptionTable := #[], attributes := #[] }
def k9m1 : Method := { name := "<init>", desc := "(Ljava/lang/String;)V", sig := { parameters := [(.object "java/lang/String")], returnType := none }, accessFlags := 1, code := some k9c1 }
/-- java/lang/ArithmeticException -/
def k9 : Class := { plain "java/lang/ArithmeticException" (some 8) with
  accessFlags := 33
  interfaces := #[]
  cf := some (fileOf pool9 10 #[] #[{ accessFlags := 1, nameIndex := 5, descriptorIndex := 6, attributes := #[] }, { accessFlags := 1, nameIndex := 5, descriptorIndex := 9, attributes := #[] }] 33 2 #[] #[{ accessFlags := 26, nameIndex := 12, descriptorIndex := 13, attributes := #[] }])
  fields := #[{ name := "serialVersionUID", type := .long, accessFlags := 26, slot := 0, constantValue := 0 }]
  methods := #[k9m0, k9m1]
  instanceTypes := #[(.object "java/lang/Object"), (.object "java/lang/String"), (.object "java/lang/Throwable"), (.array (.object "java/lang/StackTraceElement")), .int, (.object "java/util/List")]
  staticTypes := #[.long]
  resolved := Array.replicate 26 none
  statics := none }

def pool10 : Array CpInfo := pool [(2, .class_ 4), (1, u "java/lang/CharSequence"), (42, .class_ 48), (0, u "java/lang/CharSequence$1CodePointIterator"), (10, .class_ 60), (0, u "java/lang/CharSequence$1CharIterator"), (5, .class_ 67), (0, u "java/lang/Object")] 63

/-- java/lang/CharSequence -/
def k10 : Class := { plain "java/lang/CharSequence" (some 0) with
  accessFlags := 1537
  interfaces := #[]
  cf := some (fileOf pool10 2 #[.nestMembers #[47, 59]] #[] 1537 66 #[] #[])
  fields := #[]
  methods := #[]
  instanceTypes := #[]
  staticTypes := #[]
  resolved := Array.replicate 131 none
  statics := none }

def pool11 : Array CpInfo := pool [(1, .class_ 2), (0, u "java/lang/constant/Constable"), (0, .class_ 4), (0, u "java/lang/Object")] 6

/-- java/lang/constant/Constable -/
def k11 : Class := { plain "java/lang/constant/Constable" (some 0) with
  accessFlags := 1537
  interfaces := #[]
  cf := some (fileOf pool11 1 #[] #[] 1537 3 #[] #[])
  fields := #[]
  methods := #[]
  instanceTypes := #[]
  staticTypes := #[]
  resolved := Array.replicate 11 none
  statics := none }

def pool12 : Array CpInfo := pool [(1, .class_ 2), (0, u "java/lang/constant/ConstantDesc"), (0, .class_ 4), (0, u "java/lang/Object")] 32

/-- java/lang/constant/ConstantDesc -/
def k12 : Class := { plain "java/lang/constant/ConstantDesc" (some 0) with
  accessFlags := 1537
  interfaces := #[]
  cf := some (fileOf pool12 1 #[] #[] 1537 3 #[] #[])
  fields := #[]
  methods := #[]
  instanceTypes := #[]
  staticTypes := #[]
  resolved := Array.replicate 37 none
  statics := none }

def pool13 : Array CpInfo := pool [(2, .class_ 4), (1, u "java/lang/Object"), (0, u "<init>"), (0, u "()V"), (3, .class_ 12), (1, u "java/lang/String"), (0, u "value"), (0, u "[B"), (2, u "coder"), (0, u "B"), (2, u "hash"), (0, u "I"), (2, u "hashIsZero"), (0, u "Z"), (13, u "COMPACT_STRINGS"), (534, .class_ 576), (0, u "java/lang/CharSequence"), (22, u "CASE_INSENSITIVE_ORDER"), (0, u "Ljava/util/Comparator;"), (500, u "serialPersistentFields"), (0, u "[Ljava/io/ObjectStreamField;"), (0, .class_ 1104), (0, u "java/lang/String$CaseInsensitiveComparator"), (1, .class_ 1107), (0, u "java/io/Serializable"), (0, .class_ 1109), (0, u "java/lang/Comparable"), (0, .class_ 1111), (0, u "java/lang/constant/Constable"), (0, .class_ 1113), (0, u "java/lang/constant/ConstantDesc"), (2, u "serialVersionUID"), (0, u "J"), (3, u "REPL"), (0, u "C"), (2, u "LATIN1"), (1, u "UTF16")] 323

def k13m0 : Method := { name := "<init>", desc := "()V", sig := { parameters := [], returnType := none }, accessFlags := 1, code := none }
/-- java/lang/String -/
def k13 : Class := { plain "java/lang/String" (some 0) with
  accessFlags := 49
  interfaces := #[5, 2, 10, 11, 12]
  cf := some (fileOf pool13 10 #[.nestMembers #[1103]] #[{ accessFlags := 1, nameIndex := 5, descriptorIndex := 6, attributes := #[] }] 49 2 #[1106, 1108, 575, 1110, 1112] #[{ accessFlags := 18, nameIndex := 13, descriptorIndex := 14, attributes := #[] }, { accessFlags := 18, nameIndex := 17, descriptorIndex := 18, attributes := #[] }, { accessFlags := 2, nameIndex := 21, descriptorIndex := 22, attributes := #[] }, { accessFlags := 2, nameIndex := 25, descriptorIndex := 26, attributes := #[] }, { accessFlags := 26, nameIndex := 1116, descriptorIndex := 1117, attributes := #[] }, { accessFlags := 24, nameIndex := 40, descriptorIndex := 26, attributes := #[] }, { accessFlags := 26, nameIndex := 1101, descriptorIndex := 1102, attributes := #[] }, { accessFlags := 26, nameIndex := 1121, descriptorIndex := 1122, attributes := #[] }, { accessFlags := 25, nameIndex := 599, descriptorIndex := 600, attributes := #[] }, { accessFlags := 24, nameIndex := 1125, descriptorIndex := 18, attributes := #[] }, { accessFlags := 24, nameIndex := 1127, descriptorIndex := 18, attributes := #[] }])
  fields := #[{ name := "value", type := (.array .byte), accessFlags := 18, slot := 0, constantValue := 0 }, { name := "coder", type := .byte, accessFlags := 18, slot := 1, constantValue := 0 }, { name := "hash", type := .int, accessFlags := 2, slot := 2, constantValue := 0 }, { name := "hashIsZero", type := .boolean, accessFlags := 2, slot := 3, constantValue := 0 }, { name := "serialVersionUID", type := .long, accessFlags := 26, slot := 0, constantValue := 0 }, { name := "COMPACT_STRINGS", type := .boolean, accessFlags := 24, slot := 1, constantValue := 0 }, { name := "serialPersistentFields", type := (.array (.object "java/io/ObjectStreamField")), accessFlags := 26, slot := 2, constantValue := 0 }, { name := "REPL", type := .char, accessFlags := 26, slot := 3, constantValue := 0 }, { name := "CASE_INSENSITIVE_ORDER", type := (.object "java/util/Comparator"), accessFlags := 25, slot := 4, constantValue := 0 }, { name := "LATIN1", type := .byte, accessFlags := 24, slot := 5, constantValue := 0 }, { name := "UTF16", type := .byte, accessFlags := 24, slot := 6, constantValue := 0 }]
  methods := #[k13m0]
  instanceTypes := #[(.array .byte), .byte, .int, .boolean]
  staticTypes := #[.long, .boolean, (.array (.object "java/io/ObjectStreamField")), .char, (.object "java/util/Comparator"), .byte, .byte]
  resolved := Array.replicate 1451 none
  statics := none }

def pool14 : Array CpInfo := pool [(1, .methodref 2 3), (0, .class_ 4), (0, .nameAndType 5 6), (0, u "java/lang/Object"), (0, u "<init>"), (0, u "()V"), (1, .class_ 10), (1, u "java/lang/Number"), (2, .class_ 14), (0, u "java/io/Serializable"), (0, u "serialVersionUID"), (0, u "J")] 20

def k14c0 : Code := { maxStack := 1, maxLocals := 1, code := jdk_18_method_1_code, exceptionTable := #[], attributes := #[] }
def k14m0 : Method := { name := "<init>", desc := "()V", sig := { parameters := [], returnType := none }, accessFlags := 1, code := some k14c0 }
/-- java/lang/Number -/
def k14 : Class := { plain "java/lang/Number" (some 0) with
  accessFlags := 1057
  interfaces := #[5]
  cf := some (fileOf pool14 8 #[] #[{ accessFlags := 1, nameIndex := 5, descriptorIndex := 6, attributes := #[] }] 1057 2 #[13] #[{ accessFlags := 26, nameIndex := 15, descriptorIndex := 16, attributes := #[] }])
  fields := #[{ name := "serialVersionUID", type := .long, accessFlags := 26, slot := 0, constantValue := 0 }]
  methods := #[k14m0]
  instanceTypes := #[]
  staticTypes := #[.long]
  resolved := Array.replicate 37 none
  statics := none }

def pool15 : Array CpInfo := pool [(3, .class_ 4), (0, u "java/math/BigDecimal"), (4, .class_ 10), (0, u "java/math/BigInteger"), (0, .methodref 12 13), (0, .class_ 14), (0, .nameAndType 15 16), (0, u "java/lang/Number"), (0, u "<init>"), (0, u "()V"), (0, .fieldref 3 18), (0, .nameAndType 19 20), (0, u "scale"), (0, u "I"), (0, .fieldref 3 22), (0, .nameAndType 23 20), (0, u "precision"), (0, .fieldref 3 25), (0, .nameAndType 26 27), (0, u "intCompact"), (0, u "J"), (0, .fieldref 3 29), (0, .nameAndType 30 31), (0, u "intVal"), (0, u "Ljava/math/BigInteger;"), (65, u "LONG_TEN_POWERS_TABLE"), (0, u "[J"), (22, .methodref 3 122), (0, .nameAndType 123 124), (0, u "compactValFor"), (0, u "(Ljava/math/BigInteger;)J"), (0, .long 9223372036854775808), (36, u "()I"), (24, u "ZERO"), (2, u "INFLATED_BIGINT"), (2, .methodref 9 194), (0, .nameAndType 195 196), (0, u "valueOf"), (0, u "(J)Ljava/math/BigInteger;"), (9, u "TWO"), (3, .methodref 211 212), (0, .class_ 213), (0, .nameAndType 214 215), (0, u "java/lang/Object"), (0, u "getClass"), (0, u "()Ljava/lang/Class;"), (13, .methodref 3 230), (0, .nameAndType 231 232), (0, u "toStrictBigInteger"), (0, u "(Ljava/math/BigInteger;)Ljava/math/BigInteger;"), (10, .methodref 3 244), (0, .nameAndType 15 245), (0, u "(Ljava/math/BigInteger;JII)V"), (2, u "ZERO_THROUGH_TEN"), (0, u "[Ljava/math/BigDecimal;"), (2, u "ZERO_SCALED_BY"), (4, .methodref 3 258), (0, .nameAndType 259 260), (0, u "add"), (0, u "(JIJI)Ljava/math/BigDecimal;"), (8, u "(Ljava/math/BigDecimal;)Ljava/math/BigDecimal;"), (32, .methodref 3 303), (0, .nameAndType 304 305), (0, u "inflated"), (0, u "()Ljava/math/BigInteger;"), (7, u "$assertionsDisabled"), (0, u "Z"), (7, u "(JJ)J"), (7, u "(JI)Ljava/math/BigDecimal;"), (13, u "(JJI)Ljava/math/BigDecimal;"), (133, u "ONE_TENTH"), (0, u "Ljava/math/BigDecimal;"), (5, u "TEN"), (14, .class_ 502), (1, u "java/math/BigDecimal$1"), (1, u "[I"), (13, u "ONE_HALF"), (16, u "ONE"), (15, u "unscaledValue"), (25, .methodref 3 578), (0, .nameAndType 15 579), (0, u "(Ljava/math/BigInteger;I)V"), (63, u "stringCache"), (0, u "Ljava/lang/String;"), (52, .class_ 699), (1, u "java/math/BigDecimal$LongOverflow"), (8, u "FLOAT_10_POW"), (0, u "[F"), (39, u "DOUBLE_10_POW"), (0, u "[D"), (19, .class_ 772), (1, u "java/math/BigDecimal$StringBuilderHelper"), (35, u "BIG_TEN_POWERS_TABLE_MAX"), (2, u "BIG_TEN_POWERS_TABLE"), (0, u "[Ljava/math/BigInteger;"), (14, u "THRESHOLDS_TABLE"), (23, .class_ 853), (1, u "java/math/BigDecimal$UnsafeHolder"), (24, .fieldref 9 879), (0, .nameAndType 880 504), (0, u "mag"), (115, .methodref 3 997), (0, .nameAndType 259 322), (0, .methodref 9 999), (0, .nameAndType 259 196), (0, .methodref 3 1001), (0, .nameAndType 259 344), (66, u "LONGLONG_TEN_POWERS_TABLE"), (0, u "[[J"), (112, u "BIG_TEN_POWERS_TABLE_INITLEN"), (113, .class_ 1297), (0, u "java/lang/Comparable"), (0, u "L"), (0, u "D"), (1, u "P_F"), (1, u "Q_MIN_F"), (1, u "Q_MAX_F"), (1, u "P_D"), (1, u "Q_MIN_D"), (1, u "Q_MAX_D"), (1, u "INFLATED"), (0, u "MAX_COMPACT_DIGITS"), (1, u "serialVersionUID"), (2, u "HALF_LONG_MAX_VALUE"), (0, u "HALF_LONG_MIN_VALUE"), (0, u "ROUND_UP"), (6, u "ROUND_DOWN"), (1, u "ROUND_CEILING"), (1, u "ROUND_FLOOR"), (1, u "ROUND_HALF_UP"), (1, u "ROUND_HALF_DOWN"), (1, u "ROUND_HALF_EVEN"), (1, u "ROUND_UNNECESSARY"), (1, u "DIV_NUM_BASE")] 294

def k15c0 : Code := { maxStack := 3, maxLocals := 6, code := jdk_17_method_1_code, exceptionTable := #[], attributes := #[] }
def k15m0 : Method := { name := "<init>", desc := "(Ljava/math/BigInteger;JII)V", sig := { parameters := [(.object "java/math/BigInteger"), .long, .int, .int], returnType := none }, accessFlags := 0, code := some k15c0 }
def k15c1 : Code := { maxStack := 3, maxLocals := 1, code := jdk_17_method_11_code, exceptionTable := #[], attributes := #[] }
def k15m1 : Method := { name := "toStrictBigInteger", desc := "(Ljava/math/BigInteger;)Ljava/math/BigInteger;", sig := { parameters := [(.object "java/math/BigInteger")], returnType := some (.object "java/math/BigInteger") }, accessFlags := 10, code := some k15c1 }
def k15c2 : Code := { maxStack := 3, maxLocals := 3, code := jdk_17_method_14_code, exceptionTable := #[], attributes := #[] }
def k15m2 : Method := { name := "<init>", desc := "(Ljava/math/BigInteger;I)V", sig := { parameters := [(.object "java/math/BigInteger"), .int], returnType := none }, accessFlags := 1, code := some k15c2 }
def k15c3 : Code := { maxStack := 7, maxLocals := 3, code := jdk_17_method_20_code, exceptionTable := #[], attributes := #[] }
def k15m3 : Method := { name := "valueOf", desc := "(JI)Ljava/math/BigDecimal;", sig := { parameters := [.long, .int], returnType := some (.object "java/math/BigDecimal") }, accessFlags := 9, code := some k15c3 }
def k15c4 : Code := { maxStack := 6, maxLocals := 2, code := jdk_17_method_26_code, exceptionTable := #[], attributes := #[] }
def k15m4 : Method := { name := "add", desc := "(Ljava/math/BigDecimal;)Ljava/math/BigDecimal;", sig := { parameters := [(.object "java/math/BigDecimal")], returnType := some (.object "java/math/BigDecimal") }, accessFlags := 1, code := some k15c4 }
def k15c5 : Code := { maxStack := 1, maxLocals := 1, code := jdk_17_method_59_code, exceptionTable := #[], attributes := #[] }
def k15m5 : Method := { name := "scale", desc := "()I", sig := { parameters := [], returnType := some .int }, accessFlags := 1, code := some k15c5 }
def k15c6 : Code := { maxStack := 1, maxLocals := 1, code := jdk_17_method_61_code, exceptionTable := #[], attributes := #[] }
def k15m6 : Method := { name := "unscaledValue", desc := "()Ljava/math/BigInteger;", sig := { parameters := [], returnType := some (.object "java/math/BigInteger") }, accessFlags := 1, code := some k15c6 }
def k15c7 : Code := { maxStack := 2, maxLocals := 1, code := jdk_17_method_99_code, exceptionTable := #[], attributes := #[] }
def k15m7 : Method := { name := "inflated", desc := "()Ljava/math/BigInteger;", sig := { parameters := [], returnType := some (.object "java/math/BigInteger") }, accessFlags := 2, code := some k15c7 }
def k15c8 : Code := { maxStack := 5, maxLocals := 6, code := jdk_17_method_107_code, exceptionTable := #[], attributes := #[] }
def k15m8 : Method := { name := "compactValFor", desc := "(Ljava/math/BigInteger;)J", sig := { parameters := [(.object "java/math/BigInteger")], returnType := some .long }, accessFlags := 10, code := some k15c8 }
def k15c9 : Code := { maxStack := 6, maxLocals := 6, code := jdk_17_method_132_code, exceptionTable := #[], attributes := #[] }
def k15m9 : Method := { name := "add", desc := "(JJ)J", sig := { parameters := [.long, .long], returnType := some .long }, accessFlags := 10, code := some k15c9 }
def k15c10 : Code := { maxStack := 5, maxLocals := 7, code := jdk_17_method_133_code, exceptionTable := #[], attributes := #[] }
def k15m10 : Method := { name := "add", desc := "(JJI)Ljava/math/BigDecimal;", sig := { parameters := [.long, .long, .int], returnType := some (.object "java/math/BigDecimal") }, accessFlags := 10, code := some k15c10 }
def k15c11 : Code := { maxStack := 7, maxLocals := 12, code := jdk_17_method_134_code, exceptionTable := #[], attributes := #[] }
def k15m11 : Method := { name := "add", desc := "(JIJI)Ljava/math/BigDecimal;", sig := { parameters := [.long, .int, .long, .int], returnType := some (.object "java/math/BigDecimal") }, accessFlags := 10, code := some k15c11 }
/-- java/math/BigDecimal -/
def k15 : Class := { plain "java/math/BigDecimal" (some 14) with
  accessFlags := 33
  interfaces := #[2]
  cf := some (fileOf pool15 3 #[.nestMembers #[500, 851, 770, 697]] #[{ accessFlags := 0, nameIndex := 15, descriptorIndex := 245, attributes := #[] }, { accessFlags := 10, nameIndex := 231, descriptorIndex := 232, attributes := #[] }, { accessFlags := 1, nameIndex := 15, descriptorIndex := 579, attributes := #[] }, { accessFlags := 9, nameIndex := 195, descriptorIndex := 330, attributes := #[] }, { accessFlags := 1, nameIndex := 259, descriptorIndex := 269, attributes := #[] }, { accessFlags := 1, nameIndex := 19, descriptorIndex := 162, attributes := #[] }, { accessFlags := 1, nameIndex := 551, descriptorIndex := 305, attributes := #[] }, { accessFlags := 2, nameIndex := 304, descriptorIndex := 305, attributes := #[] }, { accessFlags := 10, nameIndex := 123, descriptorIndex := 124, attributes := #[] }, { accessFlags := 10, nameIndex := 259, descriptorIndex := 322, attributes := #[] }, { accessFlags := 10, nameIndex := 259, descriptorIndex := 344, attributes := #[] }, { accessFlags := 10, nameIndex := 259, descriptorIndex := 260, attributes := #[] }] 33 12 #[1296] #[{ accessFlags := 26, nameIndex := 1298, descriptorIndex := 1299, attributes := #[] }, { accessFlags := 26, nameIndex := 1301, descriptorIndex := 20, attributes := #[] }, { accessFlags := 26, nameIndex := 1303, descriptorIndex := 20, attributes := #[] }, { accessFlags := 26, nameIndex := 1305, descriptorIndex := 20, attributes := #[] }, { accessFlags := 26, nameIndex := 1307, descriptorIndex := 20, attributes := #[] }, { accessFlags := 26, nameIndex := 1309, descriptorIndex := 20, attributes := #[] }, { accessFlags := 26, nameIndex := 1311, descriptorIndex := 20, attributes := #[] }, { accessFlags := 18, nameIndex := 30, descriptorIndex := 31, attributes := #[] }, { accessFlags := 18, nameIndex := 19, descriptorIndex := 20, attributes := #[] }, { accessFlags := 130, nameIndex := 23, descriptorIndex := 20, attributes := #[] }, { accessFlags := 130, nameIndex := 643, descriptorIndex := 644, attributes := #[] }, { accessFlags := 24, nameIndex := 1313, descriptorIndex := 27, attributes := #[] }, { accessFlags := 26, nameIndex := 190, descriptorIndex := 31, attributes := #[] }, { accessFlags := 146, nameIndex := 26, descriptorIndex := 27, attributes := #[] }, { accessFlags := 26, nameIndex := 1314, descriptorIndex := 20, attributes := #[] }, { accessFlags := 26, nameIndex := 1316, descriptorIndex := 27, attributes := #[] }, { accessFlags := 26, nameIndex := 248, descriptorIndex := 249, attributes := #[] }, { accessFlags := 26, nameIndex := 252, descriptorIndex := 249, attributes := #[] }, { accessFlags := 26, nameIndex := 1319, descriptorIndex := 27, attributes := #[] }, { accessFlags := 26, nameIndex := 1320, descriptorIndex := 27, attributes := #[] }, { accessFlags := 25, nameIndex := 187, descriptorIndex := 479, attributes := #[] }, { accessFlags := 25, nameIndex := 535, descriptorIndex := 479, attributes := #[] }, { accessFlags := 25, nameIndex := 206, descriptorIndex := 479, attributes := #[] }, { accessFlags := 25, nameIndex := 485, descriptorIndex := 479, attributes := #[] }, { accessFlags := 26, nameIndex := 478, descriptorIndex := 479, attributes := #[] }, { accessFlags := 26, nameIndex := 518, descriptorIndex := 479, attributes := #[] }, { accessFlags := 25, nameIndex := 1321, descriptorIndex := 20, attributes := #[] }, { accessFlags := 25, nameIndex := 1328, descriptorIndex := 20, attributes := #[] }, { accessFlags := 25, nameIndex := 1330, descriptorIndex := 20, attributes := #[] }, { accessFlags := 25, nameIndex := 1332, descriptorIndex := 20, attributes := #[] }, { accessFlags := 25, nameIndex := 1334, descriptorIndex := 20, attributes := #[] }, { accessFlags := 25, nameIndex := 1336, descriptorIndex := 20, attributes := #[] }, { accessFlags := 25, nameIndex := 1338, descriptorIndex := 20, attributes := #[] }, { accessFlags := 25, nameIndex := 1340, descriptorIndex := 20, attributes := #[] }, { accessFlags := 26, nameIndex := 749, descriptorIndex := 750, attributes := #[] }, { accessFlags := 26, nameIndex := 708, descriptorIndex := 709, attributes := #[] }, { accessFlags := 26, nameIndex := 97, descriptorIndex := 98, attributes := #[] }, { accessFlags := 74, nameIndex := 811, descriptorIndex := 812, attributes := #[] }, { accessFlags := 26, nameIndex := 1182, descriptorIndex := 20, attributes := #[] }, { accessFlags := 26, nameIndex := 808, descriptorIndex := 20, attributes := #[] }, { accessFlags := 26, nameIndex := 827, descriptorIndex := 98, attributes := #[] }, { accessFlags := 26, nameIndex := 1342, descriptorIndex := 27, attributes := #[] }, { accessFlags := 26, nameIndex := 1068, descriptorIndex := 1069, attributes := #[] }, { accessFlags := 4120, nameIndex := 313, descriptorIndex := 314, attributes := #[] }])
  fields := #[{ name := "L", type := .double, accessFlags := 26, slot := 0, constantValue := 0 }, { name := "P_F", type := .int, accessFlags := 26, slot := 1, constantValue := 0 }, { name := "Q_MIN_F", type := .int, accessFlags := 26, slot := 2, constantValue := 0 }, { name := "Q_MAX_F", type := .int, accessFlags := 26, slot := 3, constantValue := 0 }, { name := "P_D", type := .int, accessFlags := 26, slot := 4, constantValue := 0 }, { name := "Q_MIN_D", type := .int, accessFlags := 26, slot := 5, constantValue := 0 }, { name := "Q_MAX_D", type := .int, accessFlags := 26, slot := 6, constantValue := 0 }, { name := "intVal", type := (.object "java/math/BigInteger"), accessFlags := 18, slot := 0, constantValue := 0 }, { name := "scale", type := .int, accessFlags := 18, slot := 1, constantValue := 0 }, { name := "precision", type := .int, accessFlags := 130, slot := 2, constantValue := 0 }, { name := "stringCache", type := (.object "java/lang/String"), accessFlags := 130, slot := 3, constantValue := 0 }, { name := "INFLATED", type := .long, accessFlags := 24, slot := 7, constantValue := 0 }, { name := "INFLATED_BIGINT", type := (.object "java/math/BigInteger"), accessFlags := 26, slot := 8, constantValue := 0 }, { name := "intCompact", type := .long, accessFlags := 146, slot := 4, constantValue := 0 }, { name := "MAX_COMPACT_DIGITS", type := .int, accessFlags := 26, slot := 9, constantValue := 0 }, { name := "serialVersionUID", type := .long, accessFlags := 26, slot := 10, constantValue := 0 }, { name := "ZERO_THROUGH_TEN", type := (.array (.object "java/math/BigDecimal")), accessFlags := 26, slot := 11, constantValue := 0 }, { name := "ZERO_SCALED_BY", type := (.array (.object "java/math/BigDecimal")), accessFlags := 26, slot := 12, constantValue := 0 }, { name := "HALF_LONG_MAX_VALUE", type := .long, accessFlags := 26, slot := 13, constantValue := 0 }, { name := "HALF_LONG_MIN_VALUE", type := .long, accessFlags := 26, slot := 14, constantValue := 0 }, { name := "ZERO", type := (.object "java/math/BigDecimal"), accessFlags := 25, slot := 15, constantValue := 0 }, { name := "ONE", type := (.object "java/math/BigDecimal"), accessFlags := 25, slot := 16, constantValue := 0 }, { name := "TWO", type := (.object "java/math/BigDecimal"), accessFlags := 25, slot := 17, constantValue := 0 }, { name := "TEN", type := (.object "java/math/BigDecimal"), accessFlags := 25, slot := 18, constantValue := 0 }, { name := "ONE_TENTH", type := (.object "java/math/BigDecimal"), accessFlags := 26, slot := 19, constantValue := 0 }, { name := "ONE_HALF", type := (.object "java/math/BigDecimal"), accessFlags := 26, slot := 20, constantValue := 0 }, { name := "ROUND_UP", type := .int, accessFlags := 25, slot := 21, constantValue := 0 }, { name := "ROUND_DOWN", type := .int, accessFlags := 25, slot := 22, constantValue := 0 }, { name := "ROUND_CEILING", type := .int, accessFlags := 25, slot := 23, constantValue := 0 }, { name := "ROUND_FLOOR", type := .int, accessFlags := 25, slot := 24, constantValue := 0 }, { name := "ROUND_HALF_UP", type := .int, accessFlags := 25, slot := 25, constantValue := 0 }, { name := "ROUND_HALF_DOWN", type := .int, accessFlags := 25, slot := 26, constantValue := 0 }, { name := "ROUND_HALF_EVEN", type := .int, accessFlags := 25, slot := 27, constantValue := 0 }, { name := "ROUND_UNNECESSARY", type := .int, accessFlags := 25, slot := 28, constantValue := 0 }, { name := "DOUBLE_10_POW", type := (.array .double), accessFlags := 26, slot := 29, constantValue := 0 }, { name := "FLOAT_10_POW", type := (.array .float), accessFlags := 26, slot := 30, constantValue := 0 }, { name := "LONG_TEN_POWERS_TABLE", type := (.array .long), accessFlags := 26, slot := 31, constantValue := 0 }, { name := "BIG_TEN_POWERS_TABLE", type := (.array (.object "java/math/BigInteger")), accessFlags := 74, slot := 32, constantValue := 0 }, { name := "BIG_TEN_POWERS_TABLE_INITLEN", type := .int, accessFlags := 26, slot := 33, constantValue := 0 }, { name := "BIG_TEN_POWERS_TABLE_MAX", type := .int, accessFlags := 26, slot := 34, constantValue := 0 }, { name := "THRESHOLDS_TABLE", type := (.array .long), accessFlags := 26, slot := 35, constantValue := 0 }, { name := "DIV_NUM_BASE", type := .long, accessFlags := 26, slot := 36, constantValue := 0 }, { name := "LONGLONG_TEN_POWERS_TABLE", type := (.array (.array .long)), accessFlags := 26, slot := 37, constantValue := 0 }, { name := "$assertionsDisabled", type := .boolean, accessFlags := 4120, slot := 38, constantValue := 0 }]
  methods := #[k15m0, k15m1, k15m2, k15m3, k15m4, k15m5, k15m6, k15m7, k15m8, k15m9, k15m10, k15m11]
  instanceTypes := #[(.object "java/math/BigInteger"), .int, .int, (.object "java/lang/String"), .long]
  staticTypes := #[.double, .int, .int, .int, .int, .int, .int, .long, (.object "java/math/BigInteger"), .int, .long, (.array (.object "java/math/BigDecimal")), (.array (.object "java/math/BigDecimal")), .long, .long, (.object "java/math/BigDecimal"), (.object "java/math/BigDecimal"), (.object "java/math/BigDecimal"), (.object "java/math/BigDecimal"), (.object "java/math/BigDecimal"), (.object "java/math/BigDecimal"), .int, .int, .int, .int, .int, .int, .int, .int, (.array .double), (.array .float), (.array .long), (.array (.object "java/math/BigInteger")), .int, .int, (.array .long), .long, (.array (.array .long)), .boolean]
  resolved := Array.replicate 1637 none
  statics := none }

def pool16 : Array CpInfo := pool [(1, .class_ 2), (0, u "java/lang/Integer"), (0, .methodref 4 5), (0, .class_ 6), (0, .nameAndType 7 8), (0, u "java/lang/Number"), (0, u "<init>"), (0, u "()V"), (14, .class_ 25), (1, u "java/math/BigInteger"), (0, u "ZERO"), (0, u "Ljava/math/BigInteger;"), (0, .fieldref 23 29), (0, .nameAndType 30 31), (0, u "mag"), (0, u "[I"), (0, .fieldref 23 33), (0, .nameAndType 34 35), (0, u "signum"), (0, u "I"), (7, .integer 67108864), (30, u "()I"), (7, u "(I)I"), (12, u "bitsPerDigit"), (0, u "[J"), (9, u "digitsPerInt"), (12, u "intRadix"), (10, .long 4294967295), (44, .methodref 23 176), (0, .nameAndType 7 177), (0, u "([II)V"), (2, u "SMALL_PRIME_PRODUCT"), (53, u "bitLength"), (2, u "valueOf"), (0, u "(J)Ljava/math/BigInteger;"), (2, u "add"), (18, u "ONE"), (6, u "TWO"), (12, .class_ 282), (1, u "java/lang/Math"), (15, u "abs"), (12, u "$assertionsDisabled"), (0, u "Z"), (32, .long 16), (3, u "posConst"), (0, u "[Ljava/math/BigInteger;"), (4, u "negConst"), (0, .methodref 23 357), (0, .nameAndType 7 358), (0, u "(J)V"), (11, .methodref 371 372), (0, .class_ 373), (0, .nameAndType 34 374), (0, u "java/lang/Long"), (0, u "(J)I"), (0, .methodref 280 376), (0, .nameAndType 298 377), (0, u "(J)J"), (0, .methodref 23 379), (0, .nameAndType 241 380), (0, u "([IJ)[I"), (91, .class_ 474), (1, u "java/math/BigInteger$RecursiveOp"), (106, u "NEGATIVE_ONE"), (20, .methodref 1 603), (0, .nameAndType 604 82), (0, u "numberOfLeadingZeros"), (0, .methodref 23 606), (0, .nameAndType 607 82), (0, u "bitLengthForInt"), (65, u "bnExpModThreshTable"), (72, u "lowestSetBitPlusTwo"), (0, .fieldref 23 748), (0, .nameAndType 749 35), (0, u "bitLengthPlusOne"), (2, u "bitCountPlusOne"), (6, u "LOG_TWO"), (0, u "D"), (2, u "logCache"), (0, u "[D"), (13, u "NUM_ZEROS"), (2, u "ZEROS"), (0, u "Ljava/lang/String;"), (9, u "longRadix"), (5, u "digitsPerLong"), (22, u "powerCache"), (0, u "[[Ljava/math/BigInteger;"), (45, u "firstNonzeroIntNumPlusTwo"), (38, .class_ 909), (1, u "java/math/BigInteger$UnsafeHolder"), (141, u "TEN"), (106, u "serialPersistentFields"), (0, u "[Ljava/io/ObjectStreamField;"), (0, .class_ 1161), (0, u "java/lang/Comparable"), (0, u "LONG_MASK"), (0, u "J"), (1, u "MAX_MAG_LENGTH"), (0, u "PRIME_SEARCH_BIT_LENGTH_LIMIT"), (1, u "KARATSUBA_THRESHOLD"), (1, u "TOOM_COOK_THRESHOLD"), (1, u "KARATSUBA_SQUARE_THRESHOLD"), (1, u "TOOM_COOK_SQUARE_THRESHOLD"), (1, u "BURNIKEL_ZIEGLER_THRESHOLD"), (0, u "BURNIKEL_ZIEGLER_OFFSET"), (1, u "SCHOENHAGE_BASE_CONVERSION_THRESHOLD"), (1, u "MULTIPLY_SQUARE_THRESHOLD"), (0, u "MONTGOMERY_INTRINSIC_THRESHOLD"), (1, u "SMALL_PRIME_THRESHOLD"), (1, u "DEFAULT_PRIME_CERTAINTY"), (1, u "MAX_CONSTANT"), (3, u "serialVersionUID"), (338, .class_ 1532), (0, u "java/math/BigInteger$RecursiveOp$RecursiveSquare"), (0, .class_ 1534), (0, u "java/math/BigInteger$RecursiveOp$RecursiveMultiply")] 7

def k16c0 : Code := { maxStack := 2, maxLocals := 3, code := jdk_2097_method_25_code, exceptionTable := #[], attributes := #[] }
def k16m0 : Method := { name := "<init>", desc := "([II)V", sig := { parameters := [(.array .int), .int], returnType := none }, accessFlags := 0, code := some k16c0 }
def k16c1 : Code := { maxStack := 4, maxLocals := 2, code := jdk_2097_method_29_code, exceptionTable := #[], attributes := #[] }
def k16m1 : Method := { name := "valueOf", desc := "(J)Ljava/math/BigInteger;", sig := { parameters := [.long], returnType := some (.object "java/math/BigInteger") }, accessFlags := 9, code := some k16c1 }
def k16c2 : Code := { maxStack := 4, maxLocals := 4, code := jdk_2097_method_30_code, exceptionTable := #[], attributes := #[] }
def k16m2 : Method := { name := "<init>", desc := "(J)V", sig := { parameters := [.long], returnType := none }, accessFlags := 2, code := some k16c2 }
def k16c3 : Code := { maxStack := 5, maxLocals := 5, code := jdk_2097_method_33_code, exceptionTable := #[], attributes := #[] }
def k16m3 : Method := { name := "add", desc := "(J)Ljava/math/BigInteger;", sig := { parameters := [.long], returnType := some (.object "java/math/BigInteger") }, accessFlags := 0, code := some k16c3 }
def k16c4 : Code := { maxStack := 6, maxLocals := 11, code := jdk_2097_method_34_code, exceptionTable := #[], attributes := #[] }
def k16m4 : Method := { name := "add", desc := "([IJ)[I", sig := { parameters := [(.array .int), .long], returnType := some (.array .int) }, accessFlags := 10, code := some k16c4 }
def k16c5 : Code := { maxStack := 2, maxLocals := 1, code := jdk_2097_method_74_code, exceptionTable := #[], attributes := #[] }
def k16m5 : Method := { name := "bitLengthForInt", desc := "(I)I", sig := { parameters := [.int], returnType := some .int }, accessFlags := 8, code := some k16c5 }
def k16c6 : Code := { maxStack := 3, maxLocals := 7, code := jdk_2097_method_118_code, exceptionTable := #[], attributes := #[] }
def k16m6 : Method := { name := "bitLength", desc := "()I", sig := { parameters := [], returnType := some .int }, accessFlags := 1, code := some k16c6 }
/-- java/math/BigInteger -/
def k16 : Class := { plain "java/math/BigInteger" (some 14) with
  accessFlags := 33
  interfaces := #[2]
  cf := some (fileOf pool16 23 #[.nestMembers #[907, 472, 1531, 1533]] #[{ accessFlags := 0, nameIndex := 7, descriptorIndex := 177, attributes := #[] }, { accessFlags := 9, nameIndex := 237, descriptorIndex := 238, attributes := #[] }, { accessFlags := 2, nameIndex := 7, descriptorIndex := 358, attributes := #[] }, { accessFlags := 0, nameIndex := 241, descriptorIndex := 238, attributes := #[] }, { accessFlags := 10, nameIndex := 241, descriptorIndex := 380, attributes := #[] }, { accessFlags := 8, nameIndex := 607, descriptorIndex := 82, attributes := #[] }, { accessFlags := 1, nameIndex := 234, descriptorIndex := 74, attributes := #[] }] 33 4 #[1160] #[{ accessFlags := 16, nameIndex := 34, descriptorIndex := 35, attributes := #[] }, { accessFlags := 16, nameIndex := 30, descriptorIndex := 31, attributes := #[] }, { accessFlags := 2, nameIndex := 752, descriptorIndex := 35, attributes := #[] }, { accessFlags := 2, nameIndex := 749, descriptorIndex := 35, attributes := #[] }, { accessFlags := 2, nameIndex := 746, descriptorIndex := 35, attributes := #[] }, { accessFlags := 2, nameIndex := 868, descriptorIndex := 35, attributes := #[] }, { accessFlags := 24, nameIndex := 1162, descriptorIndex := 1163, attributes := #[] }, { accessFlags := 26, nameIndex := 1165, descriptorIndex := 35, attributes := #[] }, { accessFlags := 26, nameIndex := 1166, descriptorIndex := 35, attributes := #[] }, { accessFlags := 26, nameIndex := 1168, descriptorIndex := 35, attributes := #[] }, { accessFlags := 26, nameIndex := 1170, descriptorIndex := 35, attributes := #[] }, { accessFlags := 26, nameIndex := 1172, descriptorIndex := 35, attributes := #[] }, { accessFlags := 26, nameIndex := 1174, descriptorIndex := 35, attributes := #[] }, { accessFlags := 24, nameIndex := 1176, descriptorIndex := 35, attributes := #[] }, { accessFlags := 24, nameIndex := 1177, descriptorIndex := 35, attributes := #[] }, { accessFlags := 26, nameIndex := 1179, descriptorIndex := 35, attributes := #[] }, { accessFlags := 26, nameIndex := 1181, descriptorIndex := 35, attributes := #[] }, { accessFlags := 26, nameIndex := 1182, descriptorIndex := 35, attributes := #[] }, { accessFlags := 10, nameIndex := 95, descriptorIndex := 96, attributes := #[] }, { accessFlags := 26, nameIndex := 1184, descriptorIndex := 35, attributes := #[] }, { accessFlags := 26, nameIndex := 1186, descriptorIndex := 35, attributes := #[] }, { accessFlags := 26, nameIndex := 180, descriptorIndex := 27, attributes := #[] }, { accessFlags := 26, nameIndex := 1188, descriptorIndex := 35, attributes := #[] }, { accessFlags := 26, nameIndex := 349, descriptorIndex := 350, attributes := #[] }, { accessFlags := 26, nameIndex := 355, descriptorIndex := 350, attributes := #[] }, { accessFlags := 74, nameIndex := 821, descriptorIndex := 822, attributes := #[] }, { accessFlags := 26, nameIndex := 763, descriptorIndex := 764, attributes := #[] }, { accessFlags := 26, nameIndex := 759, descriptorIndex := 760, attributes := #[] }, { accessFlags := 25, nameIndex := 26, descriptorIndex := 27, attributes := #[] }, { accessFlags := 25, nameIndex := 260, descriptorIndex := 27, attributes := #[] }, { accessFlags := 25, nameIndex := 267, descriptorIndex := 27, attributes := #[] }, { accessFlags := 26, nameIndex := 581, descriptorIndex := 27, attributes := #[] }, { accessFlags := 25, nameIndex := 1051, descriptorIndex := 27, attributes := #[] }, { accessFlags := 8, nameIndex := 673, descriptorIndex := 31, attributes := #[] }, { accessFlags := 10, nameIndex := 778, descriptorIndex := 35, attributes := #[] }, { accessFlags := 26, nameIndex := 781, descriptorIndex := 782, attributes := #[] }, { accessFlags := 10, nameIndex := 798, descriptorIndex := 31, attributes := #[] }, { accessFlags := 10, nameIndex := 792, descriptorIndex := 350, attributes := #[] }, { accessFlags := 10, nameIndex := 106, descriptorIndex := 31, attributes := #[] }, { accessFlags := 10, nameIndex := 119, descriptorIndex := 31, attributes := #[] }, { accessFlags := 26, nameIndex := 1192, descriptorIndex := 1163, attributes := #[] }, { accessFlags := 26, nameIndex := 1158, descriptorIndex := 1159, attributes := #[] }, { accessFlags := 4120, nameIndex := 311, descriptorIndex := 312, attributes := #[] }])
  fields := #[{ name := "signum", type := .int, accessFlags := 16, slot := 0, constantValue := 0 }, { name := "mag", type := (.array .int), accessFlags := 16, slot := 1, constantValue := 0 }, { name := "bitCountPlusOne", type := .int, accessFlags := 2, slot := 2, constantValue := 0 }, { name := "bitLengthPlusOne", type := .int, accessFlags := 2, slot := 3, constantValue := 0 }, { name := "lowestSetBitPlusTwo", type := .int, accessFlags := 2, slot := 4, constantValue := 0 }, { name := "firstNonzeroIntNumPlusTwo", type := .int, accessFlags := 2, slot := 5, constantValue := 0 }, { name := "LONG_MASK", type := .long, accessFlags := 24, slot := 0, constantValue := 0 }, { name := "MAX_MAG_LENGTH", type := .int, accessFlags := 26, slot := 1, constantValue := 0 }, { name := "PRIME_SEARCH_BIT_LENGTH_LIMIT", type := .int, accessFlags := 26, slot := 2, constantValue := 0 }, { name := "KARATSUBA_THRESHOLD", type := .int, accessFlags := 26, slot := 3, constantValue := 0 }, { name := "TOOM_COOK_THRESHOLD", type := .int, accessFlags := 26, slot := 4, constantValue := 0 }, { name := "KARATSUBA_SQUARE_THRESHOLD", type := .int, accessFlags := 26, slot := 5, constantValue := 0 }, { name := "TOOM_COOK_SQUARE_THRESHOLD", type := .int, accessFlags := 26, slot := 6, constantValue := 0 }, { name := "BURNIKEL_ZIEGLER_THRESHOLD", type := .int, accessFlags := 24, slot := 7, constantValue := 0 }, { name := "BURNIKEL_ZIEGLER_OFFSET", type := .int, accessFlags := 24, slot := 8, constantValue := 0 }, { name := "SCHOENHAGE_BASE_CONVERSION_THRESHOLD", type := .int, accessFlags := 26, slot := 9, constantValue := 0 }, { name := "MULTIPLY_SQUARE_THRESHOLD", type := .int, accessFlags := 26, slot := 10, constantValue := 0 }, { name := "MONTGOMERY_INTRINSIC_THRESHOLD", type := .int, accessFlags := 26, slot := 11, constantValue := 0 }, { name := "bitsPerDigit", type := (.array .long), accessFlags := 10, slot := 12, constantValue := 0 }, { name := "SMALL_PRIME_THRESHOLD", type := .int, accessFlags := 26, slot := 13, constantValue := 0 }, { name := "DEFAULT_PRIME_CERTAINTY", type := .int, accessFlags := 26, slot := 14, constantValue := 0 }, { name := "SMALL_PRIME_PRODUCT", type := (.object "java/math/BigInteger"), accessFlags := 26, slot := 15, constantValue := 0 }, { name := "MAX_CONSTANT", type := .int, accessFlags := 26, slot := 16, constantValue := 0 }, { name := "posConst", type := (.array (.object "java/math/BigInteger")), accessFlags := 26, slot := 17, constantValue := 0 }, { name := "negConst", type := (.array (.object "java/math/BigInteger")), accessFlags := 26, slot := 18, constantValue := 0 }, { name := "powerCache", type := (.array (.array (.object "java/math/BigInteger"))), accessFlags := 74, slot := 19, constantValue := 0 }, { name := "logCache", type := (.array .double), accessFlags := 26, slot := 20, constantValue := 0 }, { name := "LOG_TWO", type := .double, accessFlags := 26, slot := 21, constantValue := 0 }, { name := "ZERO", type := (.object "java/math/BigInteger"), accessFlags := 25, slot := 22, constantValue := 0 }, { name := "ONE", type := (.object "java/math/BigInteger"), accessFlags := 25, slot := 23, constantValue := 0 }, { name := "TWO", type := (.object "java/math/BigInteger"), accessFlags := 25, slot := 24, constantValue := 0 }, { name := "NEGATIVE_ONE", type := (.object "java/math/BigInteger"), accessFlags := 26, slot := 25, constantValue := 0 }, { name := "TEN", type := (.object "java/math/BigInteger"), accessFlags := 25, slot := 26, constantValue := 0 }, { name := "bnExpModThreshTable", type := (.array .int), accessFlags := 8, slot := 27, constantValue := 0 }, { name := "NUM_ZEROS", type := .int, accessFlags := 10, slot := 28, constantValue := 0 }, { name := "ZEROS", type := (.object "java/lang/String"), accessFlags := 26, slot := 29, constantValue := 0 }, { name := "digitsPerLong", type := (.array .int), accessFlags := 10, slot := 30, constantValue := 0 }, { name := "longRadix", type := (.array (.object "java/math/BigInteger")), accessFlags := 10, slot := 31, constantValue := 0 }, { name := "digitsPerInt", type := (.array .int), accessFlags := 10, slot := 32, constantValue := 0 }, { name := "intRadix", type := (.array .int), accessFlags := 10, slot := 33, constantValue := 0 }, { name := "serialVersionUID", type := .long, accessFlags := 26, slot := 34, constantValue := 0 }, { name := "serialPersistentFields", type := (.array (.object "java/io/ObjectStreamField")), accessFlags := 26, slot := 35, constantValue := 0 }, { name := "$assertionsDisabled", type := .boolean, accessFlags := 4120, slot := 36, constantValue := 0 }]
  methods := #[k16m0, k16m1, k16m2, k16m3, k16m4, k16m5, k16m6]
  instanceTypes := #[.int, (.array .int), .int, .int, .int, .int]
  staticTypes := #[.long, .int, .int, .int, .int, .int, .int, .int, .int, .int, .int, .int, (.array .long), .int, .int, (.object "java/math/BigInteger"), .int, (.array (.object "java/math/BigInteger")), (.array (.object "java/math/BigInteger")), (.array (.array (.object "java/math/BigInteger"))), (.array .double), .double, (.object "java/math/BigInteger"), (.object "java/math/BigInteger"), (.object "java/math/BigInteger"), (.object "java/math/BigInteger"), (.object "java/math/BigInteger"), (.array .int), .int, (.object "java/lang/String"), (.array .int), (.array (.object "java/math/BigInteger")), (.array .int), (.array .int), .long, (.array (.object "java/io/ObjectStreamField")), .boolean]
  resolved := Array.replicate 1542 none
  mirror := some 2
  statics := none }

def pool17 : Array CpInfo := pool [(1, .class_ 2), (0, u "java/lang/Long"), (98, u "(J)I"), (133, .class_ 237), (1, u "java/lang/Long$LongCache"), (33, .class_ 272), (0, u "java/lang/Number"), (2, u "value"), (0, u "J"), (27, u "compare"), (0, u "(JJ)I"), (55, u "TYPE"), (0, u "Ljava/lang/Class;"), (0, .class_ 364), (0, u "java/lang/Comparable"), (0, .class_ 366), (0, u "java/lang/constant/Constable"), (0, .class_ 368), (0, u "java/lang/constant/ConstantDesc"), (0, u "MIN_VALUE"), (1, u "MAX_VALUE"), (4, u "SIZE"), (0, u "I"), (1, u "BYTES"), (1, u "serialVersionUID"), (115, u "signum")] 26

def k17c0 : Code := { maxStack := 4, maxLocals := 4, code := jdk_35_method_42_code, exceptionTable := #[], attributes := #[] }
def k17m0 : Method := { name := "compare", desc := "(JJ)I", sig := { parameters := [.long, .long], returnType := some .int }, accessFlags := 9, code := some k17c0 }
def k17c1 : Code := { maxStack := 5, maxLocals := 2, code := jdk_35_method_57_code, exceptionTable := #[], attributes := #[] }
def k17m1 : Method := { name := "signum", desc := "(J)I", sig := { parameters := [.long], returnType := some .int }, accessFlags := 9, code := some k17c1 }
/-- java/lang/Long -/
def k17 : Class := { plain "java/lang/Long" (some 14) with
  accessFlags := 49
  interfaces := #[2, 11, 12]
  cf := some (fileOf pool17 1 #[.nestMembers #[235]] #[{ accessFlags := 9, nameIndex := 304, descriptorIndex := 305, attributes := #[] }, { accessFlags := 9, nameIndex := 497, descriptorIndex := 101, attributes := #[] }] 49 271 #[363, 365, 367] #[{ accessFlags := 25, nameIndex := 369, descriptorIndex := 276, attributes := #[] }, { accessFlags := 25, nameIndex := 371, descriptorIndex := 276, attributes := #[] }, { accessFlags := 25, nameIndex := 361, descriptorIndex := 362, attributes := #[] }, { accessFlags := 18, nameIndex := 275, descriptorIndex := 276, attributes := #[] }, { accessFlags := 25, nameIndex := 376, descriptorIndex := 377, attributes := #[] }, { accessFlags := 25, nameIndex := 379, descriptorIndex := 377, attributes := #[] }, { accessFlags := 26, nameIndex := 381, descriptorIndex := 276, attributes := #[] }])
  fields := #[{ name := "MIN_VALUE", type := .long, accessFlags := 25, slot := 0, constantValue := 0 }, { name := "MAX_VALUE", type := .long, accessFlags := 25, slot := 1, constantValue := 0 }, { name := "TYPE", type := (.object "java/lang/Class"), accessFlags := 25, slot := 2, constantValue := 0 }, { name := "value", type := .long, accessFlags := 18, slot := 0, constantValue := 0 }, { name := "SIZE", type := .int, accessFlags := 25, slot := 3, constantValue := 0 }, { name := "BYTES", type := .int, accessFlags := 25, slot := 4, constantValue := 0 }, { name := "serialVersionUID", type := .long, accessFlags := 26, slot := 5, constantValue := 0 }]
  methods := #[k17m0, k17m1]
  instanceTypes := #[.long]
  staticTypes := #[.long, .long, (.object "java/lang/Class"), .int, .int, .long]
  resolved := Array.replicate 524 none
  statics := none }

def pool18 : Array CpInfo := pool [(1, .class_ 2), (0, u "java/lang/Integer"), (16, u "digits"), (0, u "[C"), (32, u "numberOfLeadingZeros"), (0, u "(I)I"), (30, u "DigitOnes"), (0, u "[B"), (2, u "DigitTens"), (99, .class_ 190), (0, u "java/lang/Integer$IntegerCache"), (3, u "I"), (8, .class_ 204), (0, u "java/lang/Number"), (2, u "value"), (94, u "TYPE"), (0, u "Ljava/lang/Class;"), (0, .class_ 305), (0, u "java/lang/Comparable"), (0, .class_ 307), (0, u "java/lang/constant/Constable"), (0, .class_ 309), (0, u "java/lang/constant/ConstantDesc"), (0, u "MIN_VALUE"), (1, u "MAX_VALUE"), (3, u "SIZE"), (1, u "BYTES"), (1, u "serialVersionUID"), (0, u "J")] 131

def k18c0 : Code := { maxStack := 3, maxLocals := 2, code := jdk_33_method_47_code, exceptionTable := #[], attributes := #[] }
def k18m0 : Method := { name := "numberOfLeadingZeros", desc := "(I)I", sig := { parameters := [.int], returnType := some .int }, accessFlags := 9, code := some k18c0 }
/-- java/lang/Integer -/
def k18 : Class := { plain "java/lang/Integer" (some 14) with
  accessFlags := 49
  interfaces := #[2, 11, 12]
  cf := some (fileOf pool18 1 #[.nestMembers #[189]] #[{ accessFlags := 9, nameIndex := 53, descriptorIndex := 54, attributes := #[] }] 49 203 #[304, 306, 308] #[{ accessFlags := 25, nameIndex := 310, descriptorIndex := 194, attributes := #[] }, { accessFlags := 25, nameIndex := 312, descriptorIndex := 194, attributes := #[] }, { accessFlags := 25, nameIndex := 302, descriptorIndex := 303, attributes := #[] }, { accessFlags := 24, nameIndex := 19, descriptorIndex := 20, attributes := #[] }, { accessFlags := 24, nameIndex := 89, descriptorIndex := 86, attributes := #[] }, { accessFlags := 24, nameIndex := 85, descriptorIndex := 86, attributes := #[] }, { accessFlags := 18, nameIndex := 207, descriptorIndex := 194, attributes := #[] }, { accessFlags := 25, nameIndex := 316, descriptorIndex := 194, attributes := #[] }, { accessFlags := 25, nameIndex := 318, descriptorIndex := 194, attributes := #[] }, { accessFlags := 26, nameIndex := 320, descriptorIndex := 321, attributes := #[] }])
  fields := #[{ name := "MIN_VALUE", type := .int, accessFlags := 25, slot := 0, constantValue := 0 }, { name := "MAX_VALUE", type := .int, accessFlags := 25, slot := 1, constantValue := 0 }, { name := "TYPE", type := (.object "java/lang/Class"), accessFlags := 25, slot := 2, constantValue := 0 }, { name := "digits", type := (.array .char), accessFlags := 24, slot := 3, constantValue := 0 }, { name := "DigitTens", type := (.array .byte), accessFlags := 24, slot := 4, constantValue := 0 }, { name := "DigitOnes", type := (.array .byte), accessFlags := 24, slot := 5, constantValue := 0 }, { name := "value", type := .int, accessFlags := 18, slot := 0, constantValue := 0 }, { name := "SIZE", type := .int, accessFlags := 25, slot := 6, constantValue := 0 }, { name := "BYTES", type := .int, accessFlags := 25, slot := 7, constantValue := 0 }, { name := "serialVersionUID", type := .long, accessFlags := 26, slot := 8, constantValue := 0 }]
  methods := #[k18m0]
  instanceTypes := #[.int]
  staticTypes := #[.int, .int, (.object "java/lang/Class"), (.array .char), (.array .byte), (.array .byte), .int, .int, .long]
  resolved := Array.replicate 453 none
  statics := none }

def pool19 : Array CpInfo := pool [(2, .class_ 4), (1, u "java/lang/Object"), (0, u "<init>"), (0, u "()V"), (12, .class_ 20), (0, u "java/util/Collections"), (63, u "r"), (0, u "Ljava/util/Random;"), (80, .class_ 167), (0, u "java/util/Collections$UnmodifiableCollection"), (6, .class_ 175), (0, u "java/util/Collections$UnmodifiableSequencedCollection"), (6, .class_ 183), (0, u "java/util/Collections$UnmodifiableSet"), (6, .class_ 191), (0, u "java/util/Collections$UnmodifiableSequencedSet"), (6, .class_ 199), (0, u "java/util/Collections$UnmodifiableSortedSet"), (6, .class_ 207), (0, u "java/util/Collections$UnmodifiableNavigableSet"), (4, .class_ 213), (0, u "java/util/Collections$UnmodifiableList"), (1, .class_ 216), (0, u "java/util/Collections$UnmodifiableRandomAccessList"), (6, .class_ 224), (0, u "java/util/Collections$UnmodifiableMap"), (6, .class_ 232), (0, u "java/util/Collections$UnmodifiableSequencedMap"), (4, .class_ 238), (0, u "java/util/Collections$UnmodifiableSortedMap"), (6, .class_ 246), (0, u "java/util/Collections$UnmodifiableNavigableMap"), (3, .class_ 251), (0, u "java/util/Collections$SynchronizedCollection"), (4, .class_ 257), (0, u "java/util/Collections$SynchronizedSet"), (4, .class_ 263), (0, u "java/util/Collections$SynchronizedSortedSet"), (1, .class_ 266), (0, u "java/util/Collections$SynchronizedNavigableSet"), (1, .class_ 269), (0, u "java/util/Collections$SynchronizedRandomAccessList"), (1, .class_ 272), (0, u "java/util/Collections$SynchronizedList"), (5, .class_ 279), (0, u "java/util/Collections$SynchronizedMap"), (1, .class_ 282), (0, u "java/util/Collections$SynchronizedSortedMap"), (1, .class_ 285), (0, u "java/util/Collections$SynchronizedNavigableMap"), (1, .class_ 288), (0, u "java/util/Collections$CheckedCollection"), (11, .class_ 301), (0, u "java/util/Collections$CheckedQueue"), (3, .class_ 306), (0, u "java/util/Collections$CheckedSet"), (3, .class_ 311), (0, u "java/util/Collections$CheckedSortedSet"), (3, .class_ 316), (0, u "java/util/Collections$CheckedNavigableSet"), (3, .class_ 321), (0, u "java/util/Collections$CheckedRandomAccessList"), (3, .class_ 326), (0, u "java/util/Collections$CheckedList"), (1, .class_ 329), (0, u "java/util/Collections$CheckedMap"), (3, .class_ 334), (0, u "java/util/Collections$CheckedSortedMap"), (3, .class_ 339), (0, u "java/util/Collections$CheckedNavigableMap"), (4, .class_ 346), (1, u "java/util/Collections$EmptyIterator"), (3, .class_ 352), (1, u "java/util/Collections$EmptyListIterator"), (2, .class_ 357), (1, u "java/util/Collections$EmptyEnumeration"), (4, u "EMPTY_SET"), (0, u "Ljava/util/Set;"), (6, u "EMPTY_LIST"), (0, u "Ljava/util/List;"), (2, u "EMPTY_MAP"), (0, u "Ljava/util/Map;"), (4, .class_ 381), (0, u "java/util/Collections$SingletonSet"), (2, .class_ 385), (0, u "java/util/Collections$1"), (1, .class_ 388), (0, u "java/util/Collections$2"), (1, .class_ 391), (0, u "java/util/Collections$SingletonList"), (1, .class_ 394), (0, u "java/util/Collections$SingletonMap"), (22, .class_ 418), (0, u "java/util/Collections$CopiesList"), (4, .class_ 425), (1, u "java/util/Collections$ReverseComparator"), (8, .class_ 435), (0, u "java/util/Collections$ReverseComparator2"), (6, .class_ 443), (0, u "java/util/Collections$3"), (25, .class_ 470), (0, u "java/util/Collections$SetFromMap"), (2, .class_ 474), (0, u "java/util/Collections$SequencedSetFromMap"), (3, .class_ 479), (0, u "java/util/Collections$AsLIFOQueue"), (11, .class_ 492), (0, u "java/util/Collections$EmptySet"), (1, .class_ 495), (0, u "java/util/Collections$EmptyList"), (1, .class_ 498), (0, u "java/util/Collections$EmptyMap"), (1, u "BINARYSEARCH_THRESHOLD"), (0, u "I"), (2, u "REVERSE_THRESHOLD"), (1, u "SHUFFLE_THRESHOLD"), (1, u "FILL_THRESHOLD"), (1, u "ROTATE_THRESHOLD"), (1, u "COPY_THRESHOLD"), (1, u "REPLACEALL_THRESHOLD"), (1, u "INDEXOFSUBLIST_THRESHOLD"), (333, .class_ 851), (0, u "java/util/Collections$CheckedMap$CheckedEntrySet"), (0, .class_ 853), (0, u "java/util/Collections$CheckedMap$CheckedEntrySet$CheckedEntry"), (0, .class_ 855), (0, u "java/util/Collections$CheckedMap$CheckedEntrySet$1"), (0, .class_ 857), (0, u "java/util/Collections$CheckedList$1"), (0, .class_ 859), (0, u "java/util/Collections$CheckedCollection$1"), (0, .class_ 861), (0, u "java/util/Collections$UnmodifiableNavigableMap$EmptyNavigableMap"), (0, .class_ 863), (0, u "java/util/Collections$UnmodifiableMap$UnmodifiableEntrySet"), (0, .class_ 865), (0, u "java/util/Collections$UnmodifiableMap$UnmodifiableEntrySet$UnmodifiableEntry"), (0, .class_ 867), (0, u "java/util/Collections$UnmodifiableMap$UnmodifiableEntrySet$UnmodifiableEntrySetSpliterator"), (0, .class_ 869), (0, u "java/util/Collections$UnmodifiableMap$UnmodifiableEntrySet$1"), (0, .class_ 871), (0, u "java/util/Collections$UnmodifiableList$1"), (0, .class_ 873), (0, u "java/util/Collections$UnmodifiableNavigableSet$EmptyNavigableSet"), (0, .class_ 875), (0, u "java/util/Collections$UnmodifiableCollection$1")] 57

def k19m0 : Method := { name := "<init>", desc := "()V", sig := { parameters := [], returnType := none }, accessFlags := 2, code := none }
/-- java/util/Collections -/
def k19 : Class := { plain "java/util/Collections" (some 0) with
  accessFlags := 33
  interfaces := #[]
  cf := some (fileOf pool19 19 #[.nestMembers #[478, 473, 469, 434, 423, 417, 393, 390, 380, 497, 494, 491, 355, 350, 344, 338, 333, 328, 850, 852, 854, 320, 325, 856, 315, 310, 305, 300, 287, 858, 284, 281, 278, 268, 271, 265, 262, 256, 250, 245, 860, 237, 231, 223, 862, 864, 866, 868, 215, 212, 870, 206, 872, 198, 190, 182, 174, 166, 874, 442, 387, 384]] #[{ accessFlags := 2, nameIndex := 5, descriptorIndex := 6, attributes := #[] }] 33 2 #[] #[{ accessFlags := 26, nameIndex := 500, descriptorIndex := 501, attributes := #[] }, { accessFlags := 26, nameIndex := 504, descriptorIndex := 501, attributes := #[] }, { accessFlags := 26, nameIndex := 506, descriptorIndex := 501, attributes := #[] }, { accessFlags := 26, nameIndex := 508, descriptorIndex := 501, attributes := #[] }, { accessFlags := 26, nameIndex := 510, descriptorIndex := 501, attributes := #[] }, { accessFlags := 26, nameIndex := 512, descriptorIndex := 501, attributes := #[] }, { accessFlags := 26, nameIndex := 514, descriptorIndex := 501, attributes := #[] }, { accessFlags := 26, nameIndex := 516, descriptorIndex := 501, attributes := #[] }, { accessFlags := 10, nameIndex := 84, descriptorIndex := 85, attributes := #[] }, { accessFlags := 25, nameIndex := 362, descriptorIndex := 363, attributes := #[] }, { accessFlags := 25, nameIndex := 370, descriptorIndex := 371, attributes := #[] }, { accessFlags := 25, nameIndex := 374, descriptorIndex := 375, attributes := #[] }])
  fields := #[{ name := "BINARYSEARCH_THRESHOLD", type := .int, accessFlags := 26, slot := 0, constantValue := 0 }, { name := "REVERSE_THRESHOLD", type := .int, accessFlags := 26, slot := 1, constantValue := 0 }, { name := "SHUFFLE_THRESHOLD", type := .int, accessFlags := 26, slot := 2, constantValue := 0 }, { name := "FILL_THRESHOLD", type := .int, accessFlags := 26, slot := 3, constantValue := 0 }, { name := "ROTATE_THRESHOLD", type := .int, accessFlags := 26, slot := 4, constantValue := 0 }, { name := "COPY_THRESHOLD", type := .int, accessFlags := 26, slot := 5, constantValue := 0 }, { name := "REPLACEALL_THRESHOLD", type := .int, accessFlags := 26, slot := 6, constantValue := 0 }, { name := "INDEXOFSUBLIST_THRESHOLD", type := .int, accessFlags := 26, slot := 7, constantValue := 0 }, { name := "r", type := (.object "java/util/Random"), accessFlags := 10, slot := 8, constantValue := 0 }, { name := "EMPTY_SET", type := (.object "java/util/Set"), accessFlags := 25, slot := 9, constantValue := 0 }, { name := "EMPTY_LIST", type := (.object "java/util/List"), accessFlags := 25, slot := 10, constantValue := 0 }, { name := "EMPTY_MAP", type := (.object "java/util/Map"), accessFlags := 25, slot := 11, constantValue := 0 }]
  methods := #[k19m0]
  instanceTypes := #[]
  staticTypes := #[.int, .int, .int, .int, .int, .int, .int, .int, (.object "java/util/Random"), (.object "java/util/Set"), (.object "java/util/List"), (.object "java/util/Map")]
  resolved := Array.replicate 933 none
  statics := some 1 }

def pool20 : Array CpInfo := pool [(8, .class_ 10), (1, u "java/lang/Iterable"), (24, .class_ 36), (0, u "java/lang/Object")] 25

/-- java/lang/Iterable -/
def k20 : Class := { plain "java/lang/Iterable" (some 0) with
  accessFlags := 1537
  interfaces := #[]
  cf := some (fileOf pool20 8 #[] #[] 1537 35 #[] #[])
  fields := #[]
  methods := #[]
  instanceTypes := #[]
  staticTypes := #[]
  resolved := Array.replicate 62 none
  statics := none }

def pool21 : Array CpInfo := pool [(10, .class_ 12), (1, u "java/util/Collection"), (47, .class_ 61), (0, u "java/lang/Object"), (0, .class_ 63), (0, u "java/lang/Iterable")] 51

/-- java/util/Collection -/
def k21 : Class := { plain "java/util/Collection" (some 0) with
  accessFlags := 1537
  interfaces := #[20]
  cf := some (fileOf pool21 10 #[] #[] 1537 60 #[62] #[])
  fields := #[]
  methods := #[]
  instanceTypes := #[]
  staticTypes := #[]
  resolved := Array.replicate 115 none
  statics := none }

def pool22 : Array CpInfo := pool [(2, .class_ 4), (1, u "java/lang/Object"), (0, u "<init>"), (0, u "()V"), (1, .class_ 10), (1, u "java/util/AbstractCollection"), (66, .class_ 78), (0, u "java/util/Collection")] 81

def k22m0 : Method := { name := "<init>", desc := "()V", sig := { parameters := [], returnType := none }, accessFlags := 4, code := none }
/-- java/util/AbstractCollection -/
def k22 : Class := { plain "java/util/AbstractCollection" (some 0) with
  accessFlags := 1057
  interfaces := #[21]
  cf := some (fileOf pool22 8 #[] #[{ accessFlags := 4, nameIndex := 5, descriptorIndex := 6, attributes := #[] }] 1057 2 #[77] #[])
  fields := #[]
  methods := #[k22m0]
  instanceTypes := #[]
  staticTypes := #[]
  resolved := Array.replicate 160 none
  statics := none }

def pool23 : Array CpInfo := pool [(8, .class_ 10), (1, u "java/util/SequencedCollection"), (15, .class_ 27), (0, u "java/lang/Object"), (0, .class_ 29), (0, u "java/util/Collection")] 27

/-- java/util/SequencedCollection -/
def k23 : Class := { plain "java/util/SequencedCollection" (some 0) with
  accessFlags := 1537
  interfaces := #[21]
  cf := some (fileOf pool23 8 #[] #[] 1537 26 #[28] #[])
  fields := #[]
  methods := #[]
  instanceTypes := #[]
  staticTypes := #[]
  resolved := Array.replicate 57 none
  statics := none }

def pool24 : Array CpInfo := pool [(8, .class_ 10), (1, u "java/util/List"), (92, .class_ 104), (0, u "java/lang/Object"), (15, .class_ 121), (0, u "java/util/SequencedCollection")] 129

/-- java/util/List -/
def k24 : Class := { plain "java/util/List" (some 0) with
  accessFlags := 1537
  interfaces := #[23]
  cf := some (fileOf pool24 8 #[] #[] 1537 103 #[120] #[])
  fields := #[]
  methods := #[]
  instanceTypes := #[]
  staticTypes := #[]
  resolved := Array.replicate 251 none
  statics := none }

def pool25 : Array CpInfo := pool [(2, .class_ 4), (1, u "java/util/AbstractCollection"), (0, u "<init>"), (0, u "()V"), (1, .class_ 10), (1, u "java/util/AbstractList"), (0, u "modCount"), (0, u "I"), (64, .class_ 78), (0, u "java/util/AbstractList$Itr"), (3, .class_ 83), (0, u "java/util/AbstractList$ListItr"), (9, .class_ 94), (0, u "java/util/AbstractList$RandomAccessSubList"), (3, .class_ 99), (0, u "java/util/AbstractList$SubList"), (33, .class_ 134), (0, u "java/util/List"), (73, .class_ 209), (0, u "java/util/AbstractList$SubList$1"), (0, .class_ 211), (0, u "java/util/AbstractList$RandomAccessSpliterator")] 6

def k25m0 : Method := { name := "<init>", desc := "()V", sig := { parameters := [], returnType := none }, accessFlags := 4, code := none }
/-- java/util/AbstractList -/
def k25 : Class := { plain "java/util/AbstractList" (some 22) with
  accessFlags := 1057
  interfaces := #[24]
  cf := some (fileOf pool25 8 #[.nestMembers #[93, 98, 208, 210, 82, 77]] #[{ accessFlags := 4, nameIndex := 5, descriptorIndex := 6, attributes := #[] }] 1057 2 #[133] #[{ accessFlags := 132, nameIndex := 11, descriptorIndex := 12, attributes := #[] }])
  fields := #[{ name := "modCount", type := .int, accessFlags := 132, slot := 0, constantValue := 0 }]
  methods := #[k25m0]
  instanceTypes := #[.int]
  staticTypes := #[]
  resolved := Array.replicate 218 none
  statics := none }

def pool26 : Array CpInfo := pool [(1, .class_ 2), (0, u "java/util/RandomAccess"), (0, .class_ 4), (0, u "java/lang/Object")] 2

/-- java/util/RandomAccess -/
def k26 : Class := { plain "java/util/RandomAccess" (some 0) with
  accessFlags := 1537
  interfaces := #[]
  cf := some (fileOf pool26 1 #[] #[] 1537 3 #[] #[])
  fields := #[]
  methods := #[]
  instanceTypes := #[]
  staticTypes := #[]
  resolved := Array.replicate 7 none
  statics := none }

def pool27 : Array CpInfo := pool [(2, .class_ 4), (1, u "java/util/AbstractList"), (0, u "<init>"), (0, u "()V"), (1, .class_ 10), (1, u "java/util/Collections"), (54, .class_ 66), (0, u "java/util/Collections$EmptyList"), (0, .class_ 68), (0, u "java/util/RandomAccess"), (0, .class_ 70), (0, u "java/io/Serializable"), (0, u "serialVersionUID"), (0, u "J")] 77

def k27m0 : Method := { name := "<init>", desc := "()V", sig := { parameters := [], returnType := none }, accessFlags := 2, code := none }
/-- java/util/Collections$EmptyList -/
def k27 : Class := { plain "java/util/Collections$EmptyList" (some 25) with
  accessFlags := 32
  interfaces := #[26, 5]
  cf := some (fileOf pool27 65 #[.nestHost 8] #[{ accessFlags := 2, nameIndex := 5, descriptorIndex := 6, attributes := #[] }] 32 2 #[67, 69] #[{ accessFlags := 26, nameIndex := 71, descriptorIndex := 72, attributes := #[] }])
  fields := #[{ name := "serialVersionUID", type := .long, accessFlags := 26, slot := 0, constantValue := 0 }]
  methods := #[k27m0]
  instanceTypes := #[.int]
  staticTypes := #[.long]
  resolved := Array.replicate 150 none
  statics := none }

def pool28 : Array CpInfo := pool [(2, .class_ 4), (1, u "java/lang/StackTraceElement"), (0, u "<init>"), (2, .class_ 10), (1, u "java/lang/Object"), (0, u "()V"), (2, u "format"), (0, u "B"), (2, u "classLoaderName"), (0, u "Ljava/lang/String;"), (2, u "moduleName"), (2, u "moduleVersion"), (12, u "declaringClass"), (4, u "methodName"), (2, u "fileName"), (2, u "lineNumber"), (0, u "I"), (65, u "declaringClassObject"), (0, u "Ljava/lang/Class;"), (33, .class_ 153), (1, u "java/lang/StackTraceElement$HashedModules"), (17, .class_ 172), (0, u "java/io/Serializable"), (0, u "NATIVE_METHOD"), (1, u "UNKNOWN_SOURCE"), (2, u "BUILTIN_CLASS_LOADER"), (1, u "JDK_NON_UPGRADEABLE_MODULE"), (1, u "serialVersionUID"), (0, u "J")] 51

def k28m0 : Method := { name := "<init>", desc := "()V", sig := { parameters := [], returnType := none }, accessFlags := 2, code := none }
/-- java/lang/StackTraceElement -/
def k28 : Class := { plain "java/lang/StackTraceElement" (some 0) with
  accessFlags := 49
  interfaces := #[5]
  cf := some (fileOf pool28 2 #[.nestMembers #[151]] #[{ accessFlags := 2, nameIndex := 5, descriptorIndex := 11, attributes := #[] }] 49 8 #[171] #[{ accessFlags := 26, nameIndex := 173, descriptorIndex := 19, attributes := #[] }, { accessFlags := 26, nameIndex := 175, descriptorIndex := 19, attributes := #[] }, { accessFlags := 130, nameIndex := 116, descriptorIndex := 117, attributes := #[] }, { accessFlags := 2, nameIndex := 18, descriptorIndex := 19, attributes := #[] }, { accessFlags := 2, nameIndex := 22, descriptorIndex := 19, attributes := #[] }, { accessFlags := 2, nameIndex := 25, descriptorIndex := 19, attributes := #[] }, { accessFlags := 2, nameIndex := 38, descriptorIndex := 19, attributes := #[] }, { accessFlags := 2, nameIndex := 43, descriptorIndex := 19, attributes := #[] }, { accessFlags := 2, nameIndex := 46, descriptorIndex := 19, attributes := #[] }, { accessFlags := 2, nameIndex := 49, descriptorIndex := 50, attributes := #[] }, { accessFlags := 2, nameIndex := 14, descriptorIndex := 15, attributes := #[] }, { accessFlags := 26, nameIndex := 178, descriptorIndex := 15, attributes := #[] }, { accessFlags := 26, nameIndex := 180, descriptorIndex := 15, attributes := #[] }, { accessFlags := 26, nameIndex := 182, descriptorIndex := 183, attributes := #[] }])
  fields := #[{ name := "NATIVE_METHOD", type := (.object "java/lang/String"), accessFlags := 26, slot := 0, constantValue := 0 }, { name := "UNKNOWN_SOURCE", type := (.object "java/lang/String"), accessFlags := 26, slot := 1, constantValue := 0 }, { name := "declaringClassObject", type := (.object "java/lang/Class"), accessFlags := 130, slot := 0, constantValue := 0 }, { name := "classLoaderName", type := (.object "java/lang/String"), accessFlags := 2, slot := 1, constantValue := 0 }, { name := "moduleName", type := (.object "java/lang/String"), accessFlags := 2, slot := 2, constantValue := 0 }, { name := "moduleVersion", type := (.object "java/lang/String"), accessFlags := 2, slot := 3, constantValue := 0 }, { name := "declaringClass", type := (.object "java/lang/String"), accessFlags := 2, slot := 4, constantValue := 0 }, { name := "methodName", type := (.object "java/lang/String"), accessFlags := 2, slot := 5, constantValue := 0 }, { name := "fileName", type := (.object "java/lang/String"), accessFlags := 2, slot := 6, constantValue := 0 }, { name := "lineNumber", type := .int, accessFlags := 2, slot := 7, constantValue := 0 }, { name := "format", type := .byte, accessFlags := 2, slot := 8, constantValue := 0 }, { name := "BUILTIN_CLASS_LOADER", type := .byte, accessFlags := 26, slot := 2, constantValue := 0 }, { name := "JDK_NON_UPGRADEABLE_MODULE", type := .byte, accessFlags := 26, slot := 3, constantValue := 0 }, { name := "serialVersionUID", type := .long, accessFlags := 26, slot := 4, constantValue := 0 }]
  methods := #[k28m0]
  instanceTypes := #[(.object "java/lang/Class"), (.object "java/lang/String"), (.object "java/lang/String"), (.object "java/lang/String"), (.object "java/lang/String"), (.object "java/lang/String"), (.object "java/lang/String"), .int, .byte]
  staticTypes := #[(.object "java/lang/String"), (.object "java/lang/String"), .byte, .byte, .long]
  resolved := Array.replicate 235 none
  statics := none }

def pool29 : Array CpInfo := pool [(1, u "java/lang/Cloneable"), (0, .class_ 1), (0, u "java/lang/Object"), (0, .class_ 3)] 3

/-- java/lang/Cloneable -/
def k29 : Class := { plain "java/lang/Cloneable" (some 0) with
  accessFlags := 1537
  interfaces := #[]
  cf := some (fileOf pool29 2 #[] #[] 1537 4 #[] #[])
  fields := #[]
  methods := #[]
  instanceTypes := #[]
  staticTypes := #[]
  resolved := Array.replicate 8 none
  statics := none }

/-- the primitive byte -/
def k30 : Class := { plain "byte" none with kind := .primitive 'B', accessFlags := 0x411 }
/-- [B -/
def k31 : Class := { plain "[B" (some 0) with kind := .array 30 .byte, interfaces := #[29, 5], accessFlags := 1041 }

/-- the primitive int -/
def k32 : Class := { plain "int" none with kind := .primitive 'I', accessFlags := 0x411 }
/-- [I -/
def k33 : Class := { plain "[I" (some 0) with kind := .array 32 .int, interfaces := #[29, 5], accessFlags := 1041 }

/-- [Ljava/lang/Object; -/
def k34 : Class := { plain "[Ljava/lang/Object;" (some 0) with kind := .array 0 (.object "java/lang/Object"), interfaces := #[29, 5], accessFlags := 1041 }

/-- [Ljava/lang/StackTraceElement; -/
def k35 : Class := { plain "[Ljava/lang/StackTraceElement;" (some 0) with kind := .array 28 (.object "java/lang/StackTraceElement"), interfaces := #[29, 5], accessFlags := 1041 }

/-- [Ljava/lang/Throwable; -/
def k36 : Class := { plain "[Ljava/lang/Throwable;" (some 0) with kind := .array 6 (.object "java/lang/Throwable"), interfaces := #[29, 5], accessFlags := 1041 }

def heap : Heap := #[{ cls := 6, slots := #[.long 0, .ref 3, .ref 4, .null, .null, .null, .null, .ref 5, .int 1], vm := .statics 6 },
  { cls := 19, slots := #[.int 0, .int 0, .int 0, .int 0, .int 0, .int 0, .int 0, .int 0, .null, .null, .ref 4, .null], vm := .statics 19 },
  { cls := 0, slots := #[], vm := .mirror 16 },
  { cls := 35, slots := #[], vm := .none },
  { cls := 27, slots := #[.int 0], vm := .none },
  { cls := 36, slots := #[], vm := .none }]
def classes : Array Class := #[k0, k1, k2, k3, k4, k5, k6, k7, k8, k9, k10, k11, k12, k13, k14, k15, k16, k17, k18, k19, k20, k21, k22, k23, k24, k25, k26, k27, k28, k29, k30, k31, k32, k33, k34, k35, k36]
def interned : List (Array UInt16 × Addr) := []
def slotsUsed : Nat := 22
def theMethod : MethodId := ⟨1, 1⟩
def args0 : Array Value := #[.long 5, .long 6, .long 7, .int 2]
def aboutOver (below : List Frame) : State where
  vm := { classes := classes, interned := interned.toArray }
  heap := heap
  slotsUsed := slotsUsed
  threads := #[{ frames := .invoking theMethod args0 :: below }]
def below0 : List Frame := [.native { method := ⟨0, 0⟩, args := #[] }]
def about1 : State := aboutOver below0
def p0 : Program := .bare "" "" ""
def e0 : Env := launch0.env 0 0 0
theorem w_frames : about1.frames = Frame.invoking theMethod args0 :: below0 := rfl
set_option maxRecDepth 65536 in
theorem w_args : argsFit about1.vm theMethod args0 = true := by decide +kernel
set_option maxRecDepth 65536 in
theorem w_heap : heapFits about1 = true := by decide +kernel
set_option maxRecDepth 65536 in
theorem w_runnable : about1.curStatus? = some .runnable := by decide +kernel
set_option maxRecDepth 65536 in
theorem w_alone : about1.alone = true := by decide +kernel
set_option maxRecDepth 65536 in
theorem w_named : about1.methodNamed? x = some theMethod := by decide +kernel
set_option maxRecDepth 65536 in
theorem w_hears : about1.hears theMethod below0 = true := by decide +kernel
set_option maxRecDepth 65536 in
theorem w_ripe : about1.ripe theMethod args0 below0 = true := by decide +kernel
theorem w_running : about1.status = .running := rfl
set_option maxRecDepth 65536 in
theorem w_room : about1.hasRoom e0.platform room_1 = true :=
  launch0.hasRoom_least _ room_1 (by decide +kernel) (by decide +kernel) (by decide +kernel) (by decide +kernel) (by decide +kernel) (by decide +kernel)
theorem allAtoms_all (ts : List Jvm.Cond) (a : Array Jvm.Value) (st : Jvm.State) : (allAtoms ts).before a st = ts.all (fun c => c.before a st) := by
  induction ts with
  | nil => rfl
  | cons c t ih =>
    show (Jvm.Cond.and c (allAtoms t)).before a st = _
    rw [Jvm.Cond.before_and, ih, List.all_cons]
def words1 : List Jvm.Cond := Jvm.Cond.code x code maxLocals ret :: tables_1
/-- a 'code' word, met by the world's own term for the bytes: nothing is compared byte by byte -/
theorem code_word {y : MethodName} {bytes : ByteArray} {mx : Nat} {rt : Option FieldType} {a : Array Value} {s : State} {m : MethodId} {meth : Method} {c : Code} (h1 : s.methodNamed? y = some m) (h2 : s.vm.method? m = some meth) (h3 : meth.code = some c) (h4 : c.code = bytes)
    (h5 : (c.maxLocals == mx && c.exceptionTable.isEmpty && decide (c.maxStack ≤ mostOperands) && decide (meth.sig.returnType = rt) && !meth.locks && decide (parseMethodDescriptor y.desc = some meth.sig)) = true) : (Jvm.Cond.code y bytes mx rt).before a s = true := by
  simp only [Bool.and_eq_true, beq_iff_eq, Bool.not_eq_true', decide_eq_true_eq] at h5
  obtain ⟨⟨⟨⟨⟨g1, g2⟩, g3⟩, g4⟩, g5⟩, g6⟩ := h5
  simp [Cond.before, Cond.holds, Cond.value, h1, h2, h3, h4, g1, g2, g3, g4, g5, g6]
def isCode : Jvm.Cond → Bool
  | .code _ _ _ _ => true
  | _ => false
theorem all_split {L : List Jvm.Cond} {P : Jvm.Cond → Bool} (h1 : L.all (fun c => isCode c || P c) = true) (h2 : ∀ c ∈ L.filter isCode, P c = true) : L.all P = true := by
  refine List.all_eq_true.mpr fun c hc => ?_
  have h := List.all_eq_true.mp h1 c hc
  rcases Bool.eq_false_or_eq_true (isCode c) with hi | hi
  · exact h2 c (List.mem_filter.mpr ⟨hc, hi⟩)
  · simpa [hi] using h
set_option maxRecDepth 65536 in
theorem w_c0 : (Jvm.Cond.code x code maxLocals ret).before args0 about1 = true := code_word (m := ⟨1, 1⟩) (meth := k1m1) (c := k1c1) (by decide +kernel) rfl rfl rfl (by decide +kernel)
set_option maxRecDepth 65536 in
theorem w_c1 : (Jvm.Cond.code ({ cls := "com/example/tranche/tranche/model/Amount", name := "<init>", desc := "()V" } : Jvm.MethodName) prog_84_method_1_code (1 : Nat) (Option.none : Option Jvm.ClassFile.FieldType)).before args0 about1 = true := code_word (m := ⟨3, 0⟩) (meth := k3m0) (c := k3c0) (by decide +kernel) rfl rfl rfl (by decide +kernel)
set_option maxRecDepth 65536 in
theorem w_c2 : (Jvm.Cond.code ({ cls := "java/lang/Object", name := "<init>", desc := "()V" } : Jvm.MethodName) object_method_1_code (1 : Nat) (Option.none : Option Jvm.ClassFile.FieldType)).before args0 about1 = true := code_word (m := ⟨0, 0⟩) (meth := k0m0) (c := k0c0) (by decide +kernel) rfl rfl rfl (by decide +kernel)
set_option maxRecDepth 65536 in
theorem w_c3 : (Jvm.Cond.code ({ cls := "com/example/tranche/tranche/model/Amount", name := "set", desc := "(J)Lcom/example/tranche/tranche/model/Amount;" } : Jvm.MethodName) prog_84_method_2_code (3 : Nat) (Option.some (Jvm.ClassFile.FieldType.object "com/example/tranche/tranche/model/Amount"))).before args0 about1 = true := code_word (m := ⟨3, 1⟩) (meth := k3m1) (c := k3c1) (by decide +kernel) rfl rfl rfl (by decide +kernel)
set_option maxRecDepth 65536 in
theorem w_c4 : (Jvm.Cond.code ({ cls := "java/lang/Math", name := "addExact", desc := "(JJ)J" } : Jvm.MethodName) jdk_29_method_25_code (6 : Nat) (Option.some Jvm.ClassFile.FieldType.long)).before args0 about1 = true := code_word (m := ⟨4, 1⟩) (meth := k4m1) (c := k4c1) (by decide +kernel) rfl rfl rfl (by decide +kernel)
set_option maxRecDepth 65536 in
theorem w_c5 : (Jvm.Cond.code ({ cls := "java/lang/ArithmeticException", name := "<init>", desc := "(Ljava/lang/String;)V" } : Jvm.MethodName) jdk_84_method_2_code (2 : Nat) (Option.none : Option Jvm.ClassFile.FieldType)).before args0 about1 = true := code_word (m := ⟨9, 1⟩) (meth := k9m1) (c := k9c1) (by decide +kernel) rfl rfl rfl (by decide +kernel)
set_option maxRecDepth 65536 in
theorem w_c6 : (Jvm.Cond.code ({ cls := "java/lang/RuntimeException", name := "<init>", desc := "(Ljava/lang/String;)V" } : Jvm.MethodName) jdk_58_method_2_code (2 : Nat) (Option.none : Option Jvm.ClassFile.FieldType)).before args0 about1 = true := code_word (m := ⟨8, 1⟩) (meth := k8m1) (c := k8c1) (by decide +kernel) rfl rfl rfl (by decide +kernel)
set_option maxRecDepth 65536 in
theorem w_c7 : (Jvm.Cond.code ({ cls := "java/lang/Exception", name := "<init>", desc := "(Ljava/lang/String;)V" } : Jvm.MethodName) jdk_59_method_2_code (2 : Nat) (Option.none : Option Jvm.ClassFile.FieldType)).before args0 about1 = true := code_word (m := ⟨7, 1⟩) (meth := k7m1) (c := k7c1) (by decide +kernel) rfl rfl rfl (by decide +kernel)
set_option maxRecDepth 65536 in
theorem w_c8 : (Jvm.Cond.code ({ cls := "java/lang/Throwable", name := "<init>", desc := "(Ljava/lang/String;)V" } : Jvm.MethodName) jdk_78_method_2_code (2 : Nat) (Option.none : Option Jvm.ClassFile.FieldType)).before args0 about1 = true := code_word (m := ⟨6, 1⟩) (meth := k6m1) (c := k6c1) (by decide +kernel) rfl rfl rfl (by decide +kernel)
set_option maxRecDepth 65536 in
theorem w_c9 : (Jvm.Cond.code ({ cls := "java/lang/Throwable", name := "<init>", desc := "()V" } : Jvm.MethodName) jdk_78_method_1_code (1 : Nat) (Option.none : Option Jvm.ClassFile.FieldType)).before args0 about1 = true := code_word (m := ⟨6, 0⟩) (meth := k6m0) (c := k6c0) (by decide +kernel) rfl rfl rfl (by decide +kernel)
set_option maxRecDepth 65536 in
theorem w_c10 : (Jvm.Cond.code ({ cls := "com/example/tranche/tranche/model/Amount", name := "toBigDecimal", desc := "()Ljava/math/BigDecimal;" } : Jvm.MethodName) prog_84_method_11_code (1 : Nat) (Option.some (Jvm.ClassFile.FieldType.object "java/math/BigDecimal"))).before args0 about1 = true := code_word (m := ⟨3, 8⟩) (meth := k3m8) (c := k3c8) (by decide +kernel) rfl rfl rfl (by decide +kernel)
set_option maxRecDepth 65536 in
theorem w_c11 : (Jvm.Cond.code ({ cls := "java/math/BigDecimal", name := "valueOf", desc := "(JI)Ljava/math/BigDecimal;" } : Jvm.MethodName) jdk_17_method_20_code (3 : Nat) (Option.some (Jvm.ClassFile.FieldType.object "java/math/BigDecimal"))).before args0 about1 = true := code_word (m := ⟨15, 3⟩) (meth := k15m3) (c := k15c3) (by decide +kernel) rfl rfl rfl (by decide +kernel)
set_option maxRecDepth 65536 in
theorem w_c12 : (Jvm.Cond.code ({ cls := "java/math/BigDecimal", name := "<init>", desc := "(Ljava/math/BigInteger;JII)V" } : Jvm.MethodName) jdk_17_method_1_code (6 : Nat) (Option.none : Option Jvm.ClassFile.FieldType)).before args0 about1 = true := code_word (m := ⟨15, 0⟩) (meth := k15m0) (c := k15c0) (by decide +kernel) rfl rfl rfl (by decide +kernel)
set_option maxRecDepth 65536 in
theorem w_c13 : (Jvm.Cond.code ({ cls := "java/lang/Number", name := "<init>", desc := "()V" } : Jvm.MethodName) jdk_18_method_1_code (1 : Nat) (Option.none : Option Jvm.ClassFile.FieldType)).before args0 about1 = true := code_word (m := ⟨14, 0⟩) (meth := k14m0) (c := k14c0) (by decide +kernel) rfl rfl rfl (by decide +kernel)
set_option maxRecDepth 65536 in
theorem w_c14 : (Jvm.Cond.code ({ cls := "java/math/BigDecimal", name := "add", desc := "(Ljava/math/BigDecimal;)Ljava/math/BigDecimal;" } : Jvm.MethodName) jdk_17_method_26_code (2 : Nat) (Option.some (Jvm.ClassFile.FieldType.object "java/math/BigDecimal"))).before args0 about1 = true := code_word (m := ⟨15, 4⟩) (meth := k15m4) (c := k15c4) (by decide +kernel) rfl rfl rfl (by decide +kernel)
set_option maxRecDepth 65536 in
theorem w_c15 : (Jvm.Cond.code ({ cls := "java/math/BigDecimal", name := "add", desc := "(JIJI)Ljava/math/BigDecimal;" } : Jvm.MethodName) jdk_17_method_134_code (12 : Nat) (Option.some (Jvm.ClassFile.FieldType.object "java/math/BigDecimal"))).before args0 about1 = true := code_word (m := ⟨15, 11⟩) (meth := k15m11) (c := k15c11) (by decide +kernel) rfl rfl rfl (by decide +kernel)
set_option maxRecDepth 65536 in
theorem w_c16 : (Jvm.Cond.code ({ cls := "java/math/BigDecimal", name := "add", desc := "(JJI)Ljava/math/BigDecimal;" } : Jvm.MethodName) jdk_17_method_133_code (7 : Nat) (Option.some (Jvm.ClassFile.FieldType.object "java/math/BigDecimal"))).before args0 about1 = true := code_word (m := ⟨15, 10⟩) (meth := k15m10) (c := k15c10) (by decide +kernel) rfl rfl rfl (by decide +kernel)
set_option maxRecDepth 65536 in
theorem w_c17 : (Jvm.Cond.code ({ cls := "java/math/BigDecimal", name := "add", desc := "(JJ)J" } : Jvm.MethodName) jdk_17_method_132_code (6 : Nat) (Option.some Jvm.ClassFile.FieldType.long)).before args0 about1 = true := code_word (m := ⟨15, 9⟩) (meth := k15m9) (c := k15c9) (by decide +kernel) rfl rfl rfl (by decide +kernel)
set_option maxRecDepth 65536 in
theorem w_c18 : (Jvm.Cond.code ({ cls := "java/math/BigInteger", name := "valueOf", desc := "(J)Ljava/math/BigInteger;" } : Jvm.MethodName) jdk_2097_method_29_code (2 : Nat) (Option.some (Jvm.ClassFile.FieldType.object "java/math/BigInteger"))).before args0 about1 = true := code_word (m := ⟨16, 1⟩) (meth := k16m1) (c := k16c1) (by decide +kernel) rfl rfl rfl (by decide +kernel)
set_option maxRecDepth 65536 in
theorem w_c19 : (Jvm.Cond.code ({ cls := "java/math/BigInteger", name := "<init>", desc := "(J)V" } : Jvm.MethodName) jdk_2097_method_30_code (4 : Nat) (Option.none : Option Jvm.ClassFile.FieldType)).before args0 about1 = true := code_word (m := ⟨16, 2⟩) (meth := k16m2) (c := k16c2) (by decide +kernel) rfl rfl rfl (by decide +kernel)
set_option maxRecDepth 65536 in
theorem w_c20 : (Jvm.Cond.code ({ cls := "java/math/BigInteger", name := "add", desc := "(J)Ljava/math/BigInteger;" } : Jvm.MethodName) jdk_2097_method_33_code (5 : Nat) (Option.some (Jvm.ClassFile.FieldType.object "java/math/BigInteger"))).before args0 about1 = true := code_word (m := ⟨16, 3⟩) (meth := k16m3) (c := k16c3) (by decide +kernel) rfl rfl rfl (by decide +kernel)
set_option maxRecDepth 65536 in
theorem w_c21 : (Jvm.Cond.code ({ cls := "java/lang/Long", name := "signum", desc := "(J)I" } : Jvm.MethodName) jdk_35_method_57_code (2 : Nat) (Option.some Jvm.ClassFile.FieldType.int)).before args0 about1 = true := code_word (m := ⟨17, 1⟩) (meth := k17m1) (c := k17c1) (by decide +kernel) rfl rfl rfl (by decide +kernel)
set_option maxRecDepth 65536 in
theorem w_c22 : (Jvm.Cond.code ({ cls := "java/lang/Math", name := "abs", desc := "(J)J" } : Jvm.MethodName) jdk_29_method_61_code (2 : Nat) (Option.some Jvm.ClassFile.FieldType.long)).before args0 about1 = true := code_word (m := ⟨4, 2⟩) (meth := k4m2) (c := k4c2) (by decide +kernel) rfl rfl rfl (by decide +kernel)
set_option maxRecDepth 65536 in
theorem w_c23 : (Jvm.Cond.code ({ cls := "java/math/BigInteger", name := "add", desc := "([IJ)[I" } : Jvm.MethodName) jdk_2097_method_34_code (11 : Nat) (Option.some (Jvm.ClassFile.FieldType.array Jvm.ClassFile.FieldType.int))).before args0 about1 = true := code_word (m := ⟨16, 4⟩) (meth := k16m4) (c := k16c4) (by decide +kernel) rfl rfl rfl (by decide +kernel)
set_option maxRecDepth 65536 in
theorem w_c24 : (Jvm.Cond.code ({ cls := "java/math/BigInteger", name := "<init>", desc := "([II)V" } : Jvm.MethodName) jdk_2097_method_25_code (3 : Nat) (Option.none : Option Jvm.ClassFile.FieldType)).before args0 about1 = true := code_word (m := ⟨16, 0⟩) (meth := k16m0) (c := k16c0) (by decide +kernel) rfl rfl rfl (by decide +kernel)
set_option maxRecDepth 65536 in
theorem w_c25 : (Jvm.Cond.code ({ cls := "java/math/BigDecimal", name := "<init>", desc := "(Ljava/math/BigInteger;I)V" } : Jvm.MethodName) jdk_17_method_14_code (3 : Nat) (Option.none : Option Jvm.ClassFile.FieldType)).before args0 about1 = true := code_word (m := ⟨15, 2⟩) (meth := k15m2) (c := k15c2) (by decide +kernel) rfl rfl rfl (by decide +kernel)
set_option maxRecDepth 65536 in
theorem w_c26 : (Jvm.Cond.code ({ cls := "java/math/BigDecimal", name := "toStrictBigInteger", desc := "(Ljava/math/BigInteger;)Ljava/math/BigInteger;" } : Jvm.MethodName) jdk_17_method_11_code (1 : Nat) (Option.some (Jvm.ClassFile.FieldType.object "java/math/BigInteger"))).before args0 about1 = true := code_word (m := ⟨15, 1⟩) (meth := k15m1) (c := k15c1) (by decide +kernel) rfl rfl rfl (by decide +kernel)
set_option maxRecDepth 65536 in
theorem w_c27 : (Jvm.Cond.code ({ cls := "java/math/BigDecimal", name := "compactValFor", desc := "(Ljava/math/BigInteger;)J" } : Jvm.MethodName) jdk_17_method_107_code (6 : Nat) (Option.some Jvm.ClassFile.FieldType.long)).before args0 about1 = true := code_word (m := ⟨15, 8⟩) (meth := k15m8) (c := k15c8) (by decide +kernel) rfl rfl rfl (by decide +kernel)
set_option maxRecDepth 65536 in
theorem w_c28 : (Jvm.Cond.code ({ cls := "com/example/tranche/tranche/model/Amount", name := "set", desc := "(Ljava/math/BigDecimal;)Lcom/example/tranche/tranche/model/Amount;" } : Jvm.MethodName) prog_84_method_3_code (2 : Nat) (Option.some (Jvm.ClassFile.FieldType.object "com/example/tranche/tranche/model/Amount"))).before args0 about1 = true := code_word (m := ⟨3, 2⟩) (meth := k3m2) (c := k3c2) (by decide +kernel) rfl rfl rfl (by decide +kernel)
set_option maxRecDepth 65536 in
theorem w_c29 : (Jvm.Cond.code ({ cls := "java/math/BigDecimal", name := "scale", desc := "()I" } : Jvm.MethodName) jdk_17_method_59_code (1 : Nat) (Option.some Jvm.ClassFile.FieldType.int)).before args0 about1 = true := code_word (m := ⟨15, 5⟩) (meth := k15m5) (c := k15c5) (by decide +kernel) rfl rfl rfl (by decide +kernel)
set_option maxRecDepth 65536 in
theorem w_c30 : (Jvm.Cond.code ({ cls := "java/math/BigDecimal", name := "unscaledValue", desc := "()Ljava/math/BigInteger;" } : Jvm.MethodName) jdk_17_method_61_code (1 : Nat) (Option.some (Jvm.ClassFile.FieldType.object "java/math/BigInteger"))).before args0 about1 = true := code_word (m := ⟨15, 6⟩) (meth := k15m6) (c := k15c6) (by decide +kernel) rfl rfl rfl (by decide +kernel)
set_option maxRecDepth 65536 in
theorem w_c31 : (Jvm.Cond.code ({ cls := "java/math/BigDecimal", name := "inflated", desc := "()Ljava/math/BigInteger;" } : Jvm.MethodName) jdk_17_method_99_code (1 : Nat) (Option.some (Jvm.ClassFile.FieldType.object "java/math/BigInteger"))).before args0 about1 = true := code_word (m := ⟨15, 7⟩) (meth := k15m7) (c := k15c7) (by decide +kernel) rfl rfl rfl (by decide +kernel)
set_option maxRecDepth 65536 in
theorem w_c32 : (Jvm.Cond.code ({ cls := "java/math/BigInteger", name := "bitLength", desc := "()I" } : Jvm.MethodName) jdk_2097_method_118_code (7 : Nat) (Option.some Jvm.ClassFile.FieldType.int)).before args0 about1 = true := code_word (m := ⟨16, 6⟩) (meth := k16m6) (c := k16c6) (by decide +kernel) rfl rfl rfl (by decide +kernel)
set_option maxRecDepth 65536 in
theorem w_c33 : (Jvm.Cond.code ({ cls := "java/math/BigInteger", name := "bitLengthForInt", desc := "(I)I" } : Jvm.MethodName) jdk_2097_method_74_code (1 : Nat) (Option.some Jvm.ClassFile.FieldType.int)).before args0 about1 = true := code_word (m := ⟨16, 5⟩) (meth := k16m5) (c := k16c5) (by decide +kernel) rfl rfl rfl (by decide +kernel)
set_option maxRecDepth 65536 in
theorem w_c34 : (Jvm.Cond.code ({ cls := "java/lang/Integer", name := "numberOfLeadingZeros", desc := "(I)I" } : Jvm.MethodName) jdk_33_method_47_code (2 : Nat) (Option.some Jvm.ClassFile.FieldType.int)).before args0 about1 = true := code_word (m := ⟨18, 0⟩) (meth := k18m0) (c := k18c0) (by decide +kernel) rfl rfl rfl (by decide +kernel)
set_option maxRecDepth 65536 in
theorem w_c35 : (Jvm.Cond.code ({ cls := "com/example/tranche/tranche/model/Amount", name := "inCents", desc := "()Z" } : Jvm.MethodName) prog_84_method_9_code (1 : Nat) (Option.some Jvm.ClassFile.FieldType.boolean)).before args0 about1 = true := code_word (m := ⟨3, 6⟩) (meth := k3m6) (c := k3c6) (by decide +kernel) rfl rfl rfl (by decide +kernel)
set_option maxRecDepth 65536 in
theorem w_c36 : (Jvm.Cond.code ({ cls := "com/example/tranche/tranche/model/Amount", name := "cents", desc := "()J" } : Jvm.MethodName) prog_84_method_10_code (1 : Nat) (Option.some Jvm.ClassFile.FieldType.long)).before args0 about1 = true := code_word (m := ⟨3, 7⟩) (meth := k3m7) (c := k3c7) (by decide +kernel) rfl rfl rfl (by decide +kernel)
set_option maxRecDepth 65536 in
theorem w_c37 : (Jvm.Cond.code ({ cls := "com/example/tranche/tranche/model/Amount", name := "signum", desc := "()I" } : Jvm.MethodName) prog_84_method_8_code (1 : Nat) (Option.some Jvm.ClassFile.FieldType.int)).before args0 about1 = true := code_word (m := ⟨3, 5⟩) (meth := k3m5) (c := k3c5) (by decide +kernel) rfl rfl rfl (by decide +kernel)
set_option maxRecDepth 65536 in
theorem w_c38 : (Jvm.Cond.code ({ cls := "com/example/tranche/tranche/model/Amount", name := "compareTo", desc := "(Lcom/example/tranche/tranche/model/Amount;)I" } : Jvm.MethodName) prog_84_method_7_code (2 : Nat) (Option.some Jvm.ClassFile.FieldType.int)).before args0 about1 = true := code_word (m := ⟨3, 4⟩) (meth := k3m4) (c := k3c4) (by decide +kernel) rfl rfl rfl (by decide +kernel)
set_option maxRecDepth 65536 in
theorem w_c39 : (Jvm.Cond.code ({ cls := "java/lang/Long", name := "compare", desc := "(JJ)I" } : Jvm.MethodName) jdk_35_method_42_code (4 : Nat) (Option.some Jvm.ClassFile.FieldType.int)).before args0 about1 = true := code_word (m := ⟨17, 0⟩) (meth := k17m0) (c := k17c0) (by decide +kernel) rfl rfl rfl (by decide +kernel)
def codes1 : List Jvm.Cond := [Jvm.Cond.code x code maxLocals ret, Jvm.Cond.code ({ cls := "com/example/tranche/tranche/model/Amount", name := "<init>", desc := "()V" } : Jvm.MethodName) prog_84_method_1_code (1 : Nat) (Option.none : Option Jvm.ClassFile.FieldType), Jvm.Cond.code ({ cls := "java/lang/Object", name := "<init>", desc := "()V" } : Jvm.MethodName) object_method_1_code (1 : Nat) (Option.none : Option Jvm.ClassFile.FieldType), Jvm.Cond.code ({ cls := "com/example/tranche/tranche/model/Amount", name := "set", desc := "(J)Lcom/example/tranche/tranche/model/Amount;" } : Jvm.MethodName) prog_84_method_2_code (3 : Nat) (Option.some (Jvm.ClassFile.FieldType.object "com/example/tranche/tranche/model/Amount")), Jvm.Cond.code ({ cls := "java/lang/Math", name := "addExact", desc := "(JJ)J" } : Jvm.MethodName) jdk_29_method_25_code (6 : Nat) (Option.some Jvm.ClassFile.FieldType.long), Jvm.Cond.code ({ cls := "java/lang/ArithmeticException", name := "<init>", desc := "(Ljava/lang/String;)V" } : Jvm.MethodName) jdk_84_method_2_code (2 : Nat) (Option.none : Option Jvm.ClassFile.FieldType), Jvm.Cond.code ({ cls := "java/lang/RuntimeException", name := "<init>", desc := "(Ljava/lang/String;)V" } : Jvm.MethodName) jdk_58_method_2_code (2 : Nat) (Option.none : Option Jvm.ClassFile.FieldType), Jvm.Cond.code ({ cls := "java/lang/Exception", name := "<init>", desc := "(Ljava/lang/String;)V" } : Jvm.MethodName) jdk_59_method_2_code (2 : Nat) (Option.none : Option Jvm.ClassFile.FieldType), Jvm.Cond.code ({ cls := "java/lang/Throwable", name := "<init>", desc := "(Ljava/lang/String;)V" } : Jvm.MethodName) jdk_78_method_2_code (2 : Nat) (Option.none : Option Jvm.ClassFile.FieldType), Jvm.Cond.code ({ cls := "java/lang/Throwable", name := "<init>", desc := "()V" } : Jvm.MethodName) jdk_78_method_1_code (1 : Nat) (Option.none : Option Jvm.ClassFile.FieldType), Jvm.Cond.code ({ cls := "com/example/tranche/tranche/model/Amount", name := "toBigDecimal", desc := "()Ljava/math/BigDecimal;" } : Jvm.MethodName) prog_84_method_11_code (1 : Nat) (Option.some (Jvm.ClassFile.FieldType.object "java/math/BigDecimal")), Jvm.Cond.code ({ cls := "java/math/BigDecimal", name := "valueOf", desc := "(JI)Ljava/math/BigDecimal;" } : Jvm.MethodName) jdk_17_method_20_code (3 : Nat) (Option.some (Jvm.ClassFile.FieldType.object "java/math/BigDecimal")), Jvm.Cond.code ({ cls := "java/math/BigDecimal", name := "<init>", desc := "(Ljava/math/BigInteger;JII)V" } : Jvm.MethodName) jdk_17_method_1_code (6 : Nat) (Option.none : Option Jvm.ClassFile.FieldType), Jvm.Cond.code ({ cls := "java/lang/Number", name := "<init>", desc := "()V" } : Jvm.MethodName) jdk_18_method_1_code (1 : Nat) (Option.none : Option Jvm.ClassFile.FieldType), Jvm.Cond.code ({ cls := "java/math/BigDecimal", name := "add", desc := "(Ljava/math/BigDecimal;)Ljava/math/BigDecimal;" } : Jvm.MethodName) jdk_17_method_26_code (2 : Nat) (Option.some (Jvm.ClassFile.FieldType.object "java/math/BigDecimal")), Jvm.Cond.code ({ cls := "java/math/BigDecimal", name := "add", desc := "(JIJI)Ljava/math/BigDecimal;" } : Jvm.MethodName) jdk_17_method_134_code (12 : Nat) (Option.some (Jvm.ClassFile.FieldType.object "java/math/BigDecimal")), Jvm.Cond.code ({ cls := "java/math/BigDecimal", name := "add", desc := "(JJI)Ljava/math/BigDecimal;" } : Jvm.MethodName) jdk_17_method_133_code (7 : Nat) (Option.some (Jvm.ClassFile.FieldType.object "java/math/BigDecimal")), Jvm.Cond.code ({ cls := "java/math/BigDecimal", name := "add", desc := "(JJ)J" } : Jvm.MethodName) jdk_17_method_132_code (6 : Nat) (Option.some Jvm.ClassFile.FieldType.long), Jvm.Cond.code ({ cls := "java/math/BigInteger", name := "valueOf", desc := "(J)Ljava/math/BigInteger;" } : Jvm.MethodName) jdk_2097_method_29_code (2 : Nat) (Option.some (Jvm.ClassFile.FieldType.object "java/math/BigInteger")), Jvm.Cond.code ({ cls := "java/math/BigInteger", name := "<init>", desc := "(J)V" } : Jvm.MethodName) jdk_2097_method_30_code (4 : Nat) (Option.none : Option Jvm.ClassFile.FieldType), Jvm.Cond.code ({ cls := "java/math/BigInteger", name := "add", desc := "(J)Ljava/math/BigInteger;" } : Jvm.MethodName) jdk_2097_method_33_code (5 : Nat) (Option.some (Jvm.ClassFile.FieldType.object "java/math/BigInteger")), Jvm.Cond.code ({ cls := "java/lang/Long", name := "signum", desc := "(J)I" } : Jvm.MethodName) jdk_35_method_57_code (2 : Nat) (Option.some Jvm.ClassFile.FieldType.int), Jvm.Cond.code ({ cls := "java/lang/Math", name := "abs", desc := "(J)J" } : Jvm.MethodName) jdk_29_method_61_code (2 : Nat) (Option.some Jvm.ClassFile.FieldType.long), Jvm.Cond.code ({ cls := "java/math/BigInteger", name := "add", desc := "([IJ)[I" } : Jvm.MethodName) jdk_2097_method_34_code (11 : Nat) (Option.some (Jvm.ClassFile.FieldType.array Jvm.ClassFile.FieldType.int)), Jvm.Cond.code ({ cls := "java/math/BigInteger", name := "<init>", desc := "([II)V" } : Jvm.MethodName) jdk_2097_method_25_code (3 : Nat) (Option.none : Option Jvm.ClassFile.FieldType), Jvm.Cond.code ({ cls := "java/math/BigDecimal", name := "<init>", desc := "(Ljava/math/BigInteger;I)V" } : Jvm.MethodName) jdk_17_method_14_code (3 : Nat) (Option.none : Option Jvm.ClassFile.FieldType), Jvm.Cond.code ({ cls := "java/math/BigDecimal", name := "toStrictBigInteger", desc := "(Ljava/math/BigInteger;)Ljava/math/BigInteger;" } : Jvm.MethodName) jdk_17_method_11_code (1 : Nat) (Option.some (Jvm.ClassFile.FieldType.object "java/math/BigInteger")), Jvm.Cond.code ({ cls := "java/math/BigDecimal", name := "compactValFor", desc := "(Ljava/math/BigInteger;)J" } : Jvm.MethodName) jdk_17_method_107_code (6 : Nat) (Option.some Jvm.ClassFile.FieldType.long), Jvm.Cond.code ({ cls := "com/example/tranche/tranche/model/Amount", name := "set", desc := "(Ljava/math/BigDecimal;)Lcom/example/tranche/tranche/model/Amount;" } : Jvm.MethodName) prog_84_method_3_code (2 : Nat) (Option.some (Jvm.ClassFile.FieldType.object "com/example/tranche/tranche/model/Amount")), Jvm.Cond.code ({ cls := "java/math/BigDecimal", name := "scale", desc := "()I" } : Jvm.MethodName) jdk_17_method_59_code (1 : Nat) (Option.some Jvm.ClassFile.FieldType.int), Jvm.Cond.code ({ cls := "java/math/BigDecimal", name := "unscaledValue", desc := "()Ljava/math/BigInteger;" } : Jvm.MethodName) jdk_17_method_61_code (1 : Nat) (Option.some (Jvm.ClassFile.FieldType.object "java/math/BigInteger")), Jvm.Cond.code ({ cls := "java/math/BigDecimal", name := "inflated", desc := "()Ljava/math/BigInteger;" } : Jvm.MethodName) jdk_17_method_99_code (1 : Nat) (Option.some (Jvm.ClassFile.FieldType.object "java/math/BigInteger")), Jvm.Cond.code ({ cls := "java/math/BigInteger", name := "bitLength", desc := "()I" } : Jvm.MethodName) jdk_2097_method_118_code (7 : Nat) (Option.some Jvm.ClassFile.FieldType.int), Jvm.Cond.code ({ cls := "java/math/BigInteger", name := "bitLengthForInt", desc := "(I)I" } : Jvm.MethodName) jdk_2097_method_74_code (1 : Nat) (Option.some Jvm.ClassFile.FieldType.int), Jvm.Cond.code ({ cls := "java/lang/Integer", name := "numberOfLeadingZeros", desc := "(I)I" } : Jvm.MethodName) jdk_33_method_47_code (2 : Nat) (Option.some Jvm.ClassFile.FieldType.int), Jvm.Cond.code ({ cls := "com/example/tranche/tranche/model/Amount", name := "inCents", desc := "()Z" } : Jvm.MethodName) prog_84_method_9_code (1 : Nat) (Option.some Jvm.ClassFile.FieldType.boolean), Jvm.Cond.code ({ cls := "com/example/tranche/tranche/model/Amount", name := "cents", desc := "()J" } : Jvm.MethodName) prog_84_method_10_code (1 : Nat) (Option.some Jvm.ClassFile.FieldType.long), Jvm.Cond.code ({ cls := "com/example/tranche/tranche/model/Amount", name := "signum", desc := "()I" } : Jvm.MethodName) prog_84_method_8_code (1 : Nat) (Option.some Jvm.ClassFile.FieldType.int), Jvm.Cond.code ({ cls := "com/example/tranche/tranche/model/Amount", name := "compareTo", desc := "(Lcom/example/tranche/tranche/model/Amount;)I" } : Jvm.MethodName) prog_84_method_7_code (2 : Nat) (Option.some Jvm.ClassFile.FieldType.int), Jvm.Cond.code ({ cls := "java/lang/Long", name := "compare", desc := "(JJ)I" } : Jvm.MethodName) jdk_35_method_42_code (4 : Nat) (Option.some Jvm.ClassFile.FieldType.int)]
set_option maxRecDepth 65536 in
theorem codes_eq : words1.filter isCode = codes1 := rfl
theorem w_codes : ∀ c ∈ words1.filter isCode, c.before args0 about1 = true := by
  rw [codes_eq]
  intro c hc
  simp only [codes1, List.mem_cons, List.not_mem_nil, or_false] at hc
  rcases hc with rfl | rfl | rfl | rfl | rfl | rfl | rfl | rfl | rfl | rfl | rfl | rfl | rfl | rfl | rfl | rfl | rfl | rfl | rfl | rfl | rfl | rfl | rfl | rfl | rfl | rfl | rfl | rfl | rfl | rfl | rfl | rfl | rfl | rfl | rfl | rfl | rfl | rfl | rfl | rfl
  · exact w_c0
  · exact w_c1
  · exact w_c2
  · exact w_c3
  · exact w_c4
  · exact w_c5
  · exact w_c6
  · exact w_c7
  · exact w_c8
  · exact w_c9
  · exact w_c10
  · exact w_c11
  · exact w_c12
  · exact w_c13
  · exact w_c14
  · exact w_c15
  · exact w_c16
  · exact w_c17
  · exact w_c18
  · exact w_c19
  · exact w_c20
  · exact w_c21
  · exact w_c22
  · exact w_c23
  · exact w_c24
  · exact w_c25
  · exact w_c26
  · exact w_c27
  · exact w_c28
  · exact w_c29
  · exact w_c30
  · exact w_c31
  · exact w_c32
  · exact w_c33
  · exact w_c34
  · exact w_c35
  · exact w_c36
  · exact w_c37
  · exact w_c38
  · exact w_c39
set_option maxRecDepth 65536 in
theorem w_t1 : (words1.take 24).all (fun c => isCode c || c.before args0 about1) = true := by decide +kernel
set_option maxRecDepth 65536 in
theorem w_t2 : ((words1.drop 24).take 24).all (fun c => isCode c || c.before args0 about1) = true := by decide +kernel
set_option maxRecDepth 65536 in
theorem w_t3 : (((words1.drop 24).drop 24).take 24).all (fun c => isCode c || c.before args0 about1) = true := by decide +kernel
set_option maxRecDepth 65536 in
theorem w_t4 : ((((words1.drop 24).drop 24).drop 24).take 24).all (fun c => isCode c || c.before args0 about1) = true := by decide +kernel
set_option maxRecDepth 65536 in
theorem w_t5 : (((((words1.drop 24).drop 24).drop 24).drop 24).take 24).all (fun c => isCode c || c.before args0 about1) = true := by decide +kernel
set_option maxRecDepth 65536 in
theorem w_t6 : ((((((words1.drop 24).drop 24).drop 24).drop 24).drop 24).take 24).all (fun c => isCode c || c.before args0 about1) = true := by decide +kernel
set_option maxRecDepth 65536 in
theorem w_t7 : (((((((words1.drop 24).drop 24).drop 24).drop 24).drop 24).drop 24).take 24).all (fun c => isCode c || c.before args0 about1) = true := by decide +kernel
set_option maxRecDepth 65536 in
theorem w_t8 : ((((((((words1.drop 24).drop 24).drop 24).drop 24).drop 24).drop 24).drop 24).take 24).all (fun c => isCode c || c.before args0 about1) = true := by decide +kernel
set_option maxRecDepth 65536 in
theorem w_t9 : (((((((((words1.drop 24).drop 24).drop 24).drop 24).drop 24).drop 24).drop 24).drop 24).take 24).all (fun c => isCode c || c.before args0 about1) = true := by decide +kernel
set_option maxRecDepth 65536 in
theorem w_t10 : ((((((((((words1.drop 24).drop 24).drop 24).drop 24).drop 24).drop 24).drop 24).drop 24).drop 24).take 24).all (fun c => isCode c || c.before args0 about1) = true := by decide +kernel
set_option maxRecDepth 65536 in
theorem w_t11 : ((((((((((words1.drop 24).drop 24).drop 24).drop 24).drop 24).drop 24).drop 24).drop 24).drop 24).drop 24).all (fun c => isCode c || c.before args0 about1) = true := by decide +kernel
theorem w_tables : (allAtoms (Jvm.Cond.code x code maxLocals ret :: tables_1)).before args0 about1 = true := by
  rw [allAtoms_all]
  show words1.all (fun c => c.before args0 about1) = true
  refine all_split ?_ w_codes
  rw [← List.take_append_drop 24 words1, List.all_append, w_t1, ← List.take_append_drop 24 (words1.drop 24), List.all_append, w_t2, ← List.take_append_drop 24 ((words1.drop 24).drop 24), List.all_append, w_t3, ← List.take_append_drop 24 (((words1.drop 24).drop 24).drop 24), List.all_append, w_t4, ← List.take_append_drop 24 ((((words1.drop 24).drop 24).drop 24).drop 24), List.all_append, w_t5, ← List.take_append_drop 24 (((((words1.drop 24).drop 24).drop 24).drop 24).drop 24), List.all_append, w_t6, ← List.take_append_drop 24 ((((((words1.drop 24).drop 24).drop 24).drop 24).drop 24).drop 24), List.all_append, w_t7, ← List.take_append_drop 24 (((((((words1.drop 24).drop 24).drop 24).drop 24).drop 24).drop 24).drop 24), List.all_append, w_t8, ← List.take_append_drop 24 ((((((((words1.drop 24).drop 24).drop 24).drop 24).drop 24).drop 24).drop 24).drop 24), List.all_append, w_t9, ← List.take_append_drop 24 (((((((((words1.drop 24).drop 24).drop 24).drop 24).drop 24).drop 24).drop 24).drop 24).drop 24), List.all_append, w_t10, w_t11]
  rfl
set_option maxRecDepth 65536 in
theorem w_rest : rest_1_c.before args0 about1 = true := by decide +kernel
set_option maxRecDepth 65536 in
theorem w_case : (Jvm.Cond.and given_1 narrow_1).before args0 about1 = true := by decide +kernel
theorem w_applies : (headSpec (Jvm.Cond.code x code maxLocals ret :: tables_1) room_1).applies x e0.platform about1 = true :=
  (Spec.applies_iff w_frames).mpr ⟨w_running, w_runnable, w_alone, w_named, w_hears, w_ripe, w_room, w_tables⟩
theorem atStart : AtStart classFile x code maxLocals ret World_1 tables_1 room_1 Calls_1 rest_1 Pre_1 launch0 p0 e0 about1 theMethod args0 below0 :=
  ⟨lists_1, trivial, launch0.admits_env _ _ _, launch0.least_env, fairChoices_fair.cas, fairChoices_fair.clock, w_frames, w_args, w_heap, w_applies, ⟨(by decide +kernel : framesKnown about1 = true), ⟨(by decide +kernel : tablesKnown about1 = true), ⟨⟨16, k16, 2, by decide +kernel, rfl, rfl, _, rfl, rfl⟩, trivial⟩⟩⟩, w_rest, w_case⟩
end start1
theorem witness_1 : WitnessClaimed_1 := ⟨start1.p0, start1.e0, start1.about1, start1.theMethod, start1.args0, start1.below0, start1.atStart⟩
end Jvm.Pilot.@@N@@
