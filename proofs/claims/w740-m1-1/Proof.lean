import JvmDerived
import JvmDerived.Pilot.@@N@@Statement
import JvmDerived.Pilot.@@N@@Code
set_option linter.unusedVariables false
set_option linter.unusedSimpArgs false
@@BLOCK:NumsL.lean.txt@@
namespace Jvm.RoadKit
open Sem ClassFile Op Lib Jvm.Stand Jvm.Free Jvm.LawKit
section New
variable {p : Program} {l : Launch} {e : Env} {R : Room} {s : State} {m : MethodId} {args : Array Value} {below : List Frame} {meth : Method} {c : Code} {T : State} {locs : List Loc} {cells slots : Nat}
theorem retI (X : Stand p l e R s m args below meth c T locs cells slots) (hx : p.tables.exec = Jvm.exec) {pc : Nat} {Ls : Array Slot} {z : Int32} {rest : List Value} (hret : meth.sig.returnType = some .int) (hd : decode c.code pc = .ok (.ireturn, 1)) {fs : List Frame}
    (hl : ∀ (f : JFrame) (acts : List Action), f.method = m → f.locked = none → f.entered = [] → (doReturn e (T.setTop f) acts (some (.int z))).1 = T.setFrames fs) : Steps p.tables e below (T.setTop (mkF m pc Ls (.int z :: rest))) (T.setFrames fs) := by
  have hm' : T.vm.method? m = some meth := X.method'
  have hn : narrow .int (.int z) = .int z := rfl
  show Steps p.tables e below (T.setTop { method := m, pc := pc, locals := Ls, stack := _ :: rest, locked := none }) _
  jvm_step X.here [X.here.top, hx, hd, hm', hret, hn]
  first | (intro acts; rw [hl _ acts rfl rfl rfl]) | rw [hl _ _ rfl rfl rfl]
  exact Steps.refl _
theorem retJ (X : Stand p l e R s m args below meth c T locs cells slots) (hx : p.tables.exec = Jvm.exec) {pc : Nat} {Ls : Array Slot} {z : Int64} {rest : List Value} (hret : meth.sig.returnType = some .long) (hd : decode c.code pc = .ok (.lreturn, 1)) {fs : List Frame}
    (hl : ∀ (f : JFrame) (acts : List Action), f.method = m → f.locked = none → f.entered = [] → (doReturn e (T.setTop f) acts (some (.long z))).1 = T.setFrames fs) : Steps p.tables e below (T.setTop (mkF m pc Ls (.long z :: rest))) (T.setFrames fs) := by
  have hm' : T.vm.method? m = some meth := X.method'
  have hn : narrow .long (.long z) = .long z := rfl
  show Steps p.tables e below (T.setTop { method := m, pc := pc, locals := Ls, stack := _ :: rest, locked := none }) _
  jvm_step X.here [X.here.top, hx, hd, hm', hret, hn]
  first | (intro acts; rw [hl _ acts rfl rfl rfl]) | rw [hl _ _ rfl rfl rfl]
  exact Steps.refl _
theorem retD (X : Stand p l e R s m args below meth c T locs cells slots) (hx : p.tables.exec = Jvm.exec) {pc : Nat} {Ls : Array Slot} {z : UInt64} {rest : List Value} (hret : meth.sig.returnType = some .double) (hd : decode c.code pc = .ok (.dreturn, 1)) {fs : List Frame}
    (hl : ∀ (f : JFrame) (acts : List Action), f.method = m → f.locked = none → f.entered = [] → (doReturn e (T.setTop f) acts (some (.double z))).1 = T.setFrames fs) : Steps p.tables e below (T.setTop (mkF m pc Ls (.double z :: rest))) (T.setFrames fs) := by
  have hm' : T.vm.method? m = some meth := X.method'
  have hn : narrow .double (.double z) = .double z := rfl
  show Steps p.tables e below (T.setTop { method := m, pc := pc, locals := Ls, stack := _ :: rest, locked := none }) _
  jvm_step X.here [X.here.top, hx, hd, hm', hret, hn]
  first | (intro acts; rw [hl _ acts rfl rfl rfl]) | rw [hl _ _ rfl rfl rfl]
  exact Steps.refl _
end New
end Jvm.RoadKit
namespace Jvm.Pilot.@@N@@
open Jvm Jvm.ClassFile Sem Op Lib Jvm.Free Jvm.Stand Jvm.LawKit Jvm.RoadKit Bundle Jvm.Pilot.@@N@@.Jvm.D
theorem own_selp {s : State} {args : Array Value} {y : MethodName} {n : Nat} (wi : (Jvm.Cond.instantiable y.cls n).before args s = true) (hp : s.PrivateAt y) (hinst : (Jvm.Cond.instanceMethod y).before args s = true) (hy : y.cls ≠ "java/lang/invoke/MethodHandle" ∧ y.cls ≠ "java/lang/invoke/VarHandle") : (Jvm.Cond.selects y.cls y y).before args s = true := by
  obtain ⟨c, k, h1, h2, h3, h4, -⟩ := Cond.instantiable_spec wi
  exact selects_self_of_private h1 h2 (Bool.or_eq_false_iff.mp h4).1 hp hinst hy
theorem own_words {Z : State} {a0 : Array Value} (hw : ∀ d ∈ tables_1, d.before a0 Z = true) : ∀ a ∈ Bundle.stringAtoms, a.before a0 Z = true := fun a ha => by
  simp only [Bundle.stringAtoms, List.mem_cons, List.not_mem_nil, or_false] at ha
  rcases ha with rfl | rfl | rfl | rfl | rfl | rfl | rfl
  · first | exact hw _ (List.mem_of_getElem? (i := 4) rfl) | exact hw _ (List.mem_of_getElem? (i := 5) rfl) | exact hw _ (List.mem_of_getElem? (i := 6) rfl) | exact hw _ (List.mem_of_getElem? (i := 7) rfl) | exact hw _ (List.mem_of_getElem? (i := 8) rfl) | exact hw _ (List.mem_of_getElem? (i := 9) rfl) | exact hw _ (List.mem_of_getElem? (i := 10) rfl)
  · first | exact hw _ (List.mem_of_getElem? (i := 4) rfl) | exact hw _ (List.mem_of_getElem? (i := 5) rfl) | exact hw _ (List.mem_of_getElem? (i := 6) rfl) | exact hw _ (List.mem_of_getElem? (i := 7) rfl) | exact hw _ (List.mem_of_getElem? (i := 8) rfl) | exact hw _ (List.mem_of_getElem? (i := 9) rfl) | exact hw _ (List.mem_of_getElem? (i := 10) rfl)
  · first | exact hw _ (List.mem_of_getElem? (i := 4) rfl) | exact hw _ (List.mem_of_getElem? (i := 5) rfl) | exact hw _ (List.mem_of_getElem? (i := 6) rfl) | exact hw _ (List.mem_of_getElem? (i := 7) rfl) | exact hw _ (List.mem_of_getElem? (i := 8) rfl) | exact hw _ (List.mem_of_getElem? (i := 9) rfl) | exact hw _ (List.mem_of_getElem? (i := 10) rfl)
  · first | exact hw _ (List.mem_of_getElem? (i := 4) rfl) | exact hw _ (List.mem_of_getElem? (i := 5) rfl) | exact hw _ (List.mem_of_getElem? (i := 6) rfl) | exact hw _ (List.mem_of_getElem? (i := 7) rfl) | exact hw _ (List.mem_of_getElem? (i := 8) rfl) | exact hw _ (List.mem_of_getElem? (i := 9) rfl) | exact hw _ (List.mem_of_getElem? (i := 10) rfl)
  · first | exact hw _ (List.mem_of_getElem? (i := 4) rfl) | exact hw _ (List.mem_of_getElem? (i := 5) rfl) | exact hw _ (List.mem_of_getElem? (i := 6) rfl) | exact hw _ (List.mem_of_getElem? (i := 7) rfl) | exact hw _ (List.mem_of_getElem? (i := 8) rfl) | exact hw _ (List.mem_of_getElem? (i := 9) rfl) | exact hw _ (List.mem_of_getElem? (i := 10) rfl)
  · first | exact hw _ (List.mem_of_getElem? (i := 4) rfl) | exact hw _ (List.mem_of_getElem? (i := 5) rfl) | exact hw _ (List.mem_of_getElem? (i := 6) rfl) | exact hw _ (List.mem_of_getElem? (i := 7) rfl) | exact hw _ (List.mem_of_getElem? (i := 8) rfl) | exact hw _ (List.mem_of_getElem? (i := 9) rfl) | exact hw _ (List.mem_of_getElem? (i := 10) rfl)
  · first | exact hw _ (List.mem_of_getElem? (i := 4) rfl) | exact hw _ (List.mem_of_getElem? (i := 5) rfl) | exact hw _ (List.mem_of_getElem? (i := 6) rfl) | exact hw _ (List.mem_of_getElem? (i := 7) rfl) | exact hw _ (List.mem_of_getElem? (i := 8) rfl) | exact hw _ (List.mem_of_getElem? (i := 9) rfl) | exact hw _ (List.mem_of_getElem? (i := 10) rfl)
section
variable {p : Program} {l : Launch} {e : Env} {R : Room} {s : State} {m : MethodId} {args : Array Value} {below : List Frame} {meth : Method} {c : Code} {T : State} {locs : List Loc} {cells slots : Nat} {Z : State} {a0 : Array Value}
/-- 'invokespecial' of a constructor whose entry is resolved (a word 'methodRef') -/
theorem own_refBack (X : Stand p l e R s m args below meth c T locs cells slots) (hexec : p.tables.exec = Jvm.exec) (hZ : Z.Warmed39 s.vm) {own : String} {index : Nat} {y : MethodName} (hy1 : y.name = "<init>")
    (hown : s.vm.findClass own = some m.cls) (href : (Cond.methodRef own index y).before a0 Z = true) (winst : (Cond.instanceMethod y).before a0 Z = true)
    {bytes : ByteArray} {maxL : Nat} (wcode : (Cond.code y bytes maxL none).before a0 Z = true) (hy : y.cls ≠ "java/lang/invoke/MethodHandle" ∧ y.cls ≠ "java/lang/invoke/VarHandle")
    {W : Nat} {Pre : Pt → Array Value → Prop} {Post : Pt → Array Value → Option Value → Pt → Prop} (hK : Back l R p e below s args y 3 W Pre Post)
    {g : JFrame} (hg : g.method = m) (hsize : g.locals.size = c.maxLocals) {s₀ : State} (hcome : Steps p.tables e below s₀ (T.setTop g)) {a : Addr} {argsL rest : List Value}
    (hlen : ∀ sig, parseMethodDescriptor y.desc = some sig → argsL.length = sig.parameters.length) (hstack : g.stack = argsL.reverse ++ .ref a :: rest) (hW : 2 * g.monitorRoom + (rest.map fun v => v.category).sum ≤ W)
    (hdg : decode c.code g.pc = .ok (.invokespecial index, 3)) (hpre : ∀ vm₁, s.WarmedH vm₁ → Pre ⟨T.setVm vm₁, locs, cells, slots⟩ (.ref a :: argsL).toArray) :
    ∃ (v : Option Value) (vm₁ : Vm) (B : Pt), s.WarmedH vm₁ ∧ Stand p l e R s m args below meth c B.U B.locs B.cells B.slots ∧ Post ⟨T.setVm vm₁, locs, cells, slots⟩ (.ref a :: argsL).toArray v B ∧
      Steps p.tables e below s₀ (B.U.setTop { g with pc := g.pc + 3, stack := v.toList ++ rest }) := by
  have hZT : Z.Warmed39 T.vm := wtrans hZ X.warmed
  have hinst : (Cond.instanceMethod y).before args T = true := mvT hZT winst
  have hcode : (Cond.code y bytes maxL none).before args T = true := mvT hZT wcode
  obtain ⟨mz, hnz⟩ := Cond.code_named wcode
  have hr : (Cond.methodRef own index y).before a0 (Z.setVm T.vm) = true := Cond.methodRef_warmed39 hZT hnz hy href
  have hownT : (Z.setVm T.vm).vm.findClass own = some m.cls := by
    show T.vm.findClass own = _
    rw [X.warmed.alike.findClass]; exact hown
  obtain ⟨mm, c', h1, h2, h3, h4⟩ := Cond.methodRef_named e hownT hr
  obtain ⟨obj, methO, hnO, hmO, hstO, habO⟩ := Cond.instanceMethod_spec hinst
  obtain ⟨methO', cO, hmO', hcO, hbO, hlO, -, hlockO, -, hsigO⟩ := Cond.code_spec hnO hcode
  cases hmO.symm.trans hmO'
  obtain ⟨kO, hkO, hnameO⟩ := className_of_methodNamed hnO
  obtain ⟨hnameMO, hdescO⟩ := name_of_methodNamed hnO hmO
  have e1 : mm = obj := Option.some.inj ((show T.methodFound? y.cls y.name y.desc = some mm from h1).symm.trans (State.methodFound?_of_named hnO hy))
  subst e1
  have e2 : c' = mm.cls := Option.some.inj ((show T.vm.findClass y.cls = some c' from h3).symm.trans (findClass_of_methodNamed hnO))
  subst e2
  have hfound : lookupSpecial T.vm mm.cls "<init>" methO.desc = .method mm := by rw [hdescO, ← hy1]; exact lookupSpecial_of_named hnO hmO hstO
  subst hg
  have hstep : ∀ target, (∀ acts, Steps p.tables e below (doInvoke e (T.setTop { g with stack := rest }) acts mm (.ref a :: argsL).toArray).1 target) → Steps p.tables e below (T.setTop g) target := by
    intro target hrest
    jvm_step X.here [hexec, hdg, invokespecial.wp_init (e := e) (s := T) (k := kO) (meth := methO) (m := mm) (a := a) (args := argsL) (rest := rest) (f := g) X.here.top h4 h2 hkO hmO (by rw [hnameMO]; exact hy1) hstO habO hfound (hlen _ hsigO) hstack]
    exact hrest
  have eT : T.setVm T.vm = T := rfl
  have hp := hpre T.vm X.warmed
  rw [eT] at hp
  obtain ⟨v, B, X', hpost, hsteps⟩ := hK g.method meth c ⟨T, locs, cells, slots⟩ { g with stack := rest } (.invokespecial index) mm (.ref a :: argsL).toArray X rfl hsize hdg hW hnO hp
  exact ⟨v, T.vm, B, X.warmed, X', by rw [eT]; exact hpost, (hcome.trans (hstep _ fun acts => by rw [doInvoke_state]; exact Steps.refl _)).trans hsteps⟩
end
/-- every component suits the array -/
def own_G (ty : FieldType) (cl : Cell) : Prop := ∀ (i : Nat) (v : Value), cl.slots[i]? = some v → fits ty v = true
theorem own_G_new {cl : Cell} {k : ClassId} {ty : FieldType} {z : Int32} (h : cl = newA k ty z) : own_G ty cl := by
  subst h; intro i v q
  have q' : (Array.replicate z.toNatClampNeg (defaultValue ty))[i]? = some v := q
  rw [Array.getElem?_replicate] at q'
  split at q'
  · cases q'; cases ty <;> rfl
  · cases q'
theorem own_G_set {cl cl' : Cell} {ty : FieldType} {j : Nat} {v : Value} (G : own_G ty cl) (h : cl' = cl.setSlot j v) (hv : fits ty v = true) : own_G ty cl' := by
  subst h; intro i u q
  have q' : (cl.slots.setIfInBounds j v)[i]? = some u := q
  rw [Array.getElem?_setIfInBounds] at q'
  split at q'
  · split at q'
    · cases q'; exact hv
    · cases q'
  · exact G i u q'
theorem own_arv {Z : State} {h : Heap} {a : Addr} {cl : Cell} {ty : FieldType} {z : Int32} {dv : Value} (A : Arr Z h a cl ty) (S : cl.slots.size = z.toNatClampNeg) (hz : ¬ z < 0) (G : own_G ty cl) : Arv Z h a cl.cls ty z cl.slots.toList dv := by
  have e : ∀ k, k < cl.slots.size → cl.slots[k]? = some (cl.slots.toList.getD k dv) := fun k hk => by
    rw [List.getD_eq_getElem?_getD, Array.getElem?_toList, Array.getElem?_eq_getElem hk]; rfl
  exact ⟨cl, A, rfl, S, hz, e, fun k hk => G k _ (e k hk)⟩
theorem own_getD {cl : Cell} {v dv : Value} (h : cl.slots[0]? = some v) : cl.slots.toList.getD 0 dv = v := by
  rw [List.getD_eq_getElem?_getD, Array.getElem?_toList, h]; rfl
theorem own_has0 {cl : Cell} {vs : List Value} {dv v : Value} (H : Has cl vs dv) (S : 0 < cl.slots.size) (q : vs.getD 0 dv = v) : cl.slots[0]? = some v := by rw [H 0 S, q]
theorem own_in {cl : Cell} {j : Int32} {n : Nat} (S : cl.slots.size = n) (h0 : ¬ j < 0) (hj : j.toNatClampNeg < n) : ¬ (j < 0 ∨ cl.slots.size ≤ j.toNatClampNeg) := fun q => q.elim h0 fun r => by rw [S] at r; omega
theorem own_at {cl : Cell} {j : Int32} {i : Nat} {v : Value} (hj : j.toNatClampNeg = i) (h : cl.slots[i]? = some v) : cl.slots[j.toNatClampNeg]? = some v := by rw [hj]; exact h
theorem own_same {cl cl' : Cell} {i : Nat} {j : Int32} {v : Value} (h : cl' = cl.setSlot j.toNatClampNeg v) (hj : j.toNatClampNeg = i) (hi : i < cl.slots.size) : cl'.slots[i]? = some v := by
  subst h; subst hj
  show (cl.slots.setIfInBounds _ v)[_]? = some v
  rw [Array.getElem?_setIfInBounds_self_of_lt hi]
theorem own_other {cl cl' : Cell} {i : Nat} {j : Int32} {u v : Value} (h : cl' = cl.setSlot j.toNatClampNeg v) (hj : j.toNatClampNeg ≠ i) (q : cl.slots[i]? = some u) : cl'.slots[i]? = some u := by
  subst h
  show (cl.slots.setIfInBounds _ v)[_]? = some u
  rw [Array.getElem?_setIfInBounds_ne hj]; exact q
theorem own_ssz {cl cl' : Cell} {j : Int32} {v : Value} {n : Nat} (h : cl' = cl.setSlot j.toNatClampNeg v) (S : cl.slots.size = n) : cl'.slots.size = n := by rw [h, sz_set]; exact S
theorem own_cp1 {vd vs : List Value} {p3 : Int32} (h : 256 ≤ vd.length) (h3 : p3.toNatClampNeg ≤ 256) :
    256 ≤ (vd.take (0 : Int32).toNatClampNeg ++ ((List.range p3.toNatClampNeg).map fun i => vs.getD ((0 : Int32).toNatClampNeg + i) (.int 0)) ++ vd.drop ((0 : Int32).toNatClampNeg + p3.toNatClampNeg)).length := by
  rw [show (0 : Int32).toNatClampNeg = 0 from by decide]
  simp only [List.length_append, List.length_take, List.length_map, List.length_range, List.length_drop]; omega
theorem own_cp2 {vd vs : List Value} : (vd.take (0 : Int32).toNatClampNeg ++ ((List.range (1 : Int32).toNatClampNeg).map fun i => vs.getD ((0 : Int32).toNatClampNeg + i) (.int 0)) ++ vd.drop ((0 : Int32).toNatClampNeg + (1 : Int32).toNatClampNeg)).getD 0 (.int 0) = vs.getD 0 (.int 0) := by
  rw [show (0 : Int32).toNatClampNeg = 0 from by decide, show (1 : Int32).toNatClampNeg = 1 from by decide]; rfl
theorem own_and3 {x q : Int32} (h : q = (x &&& (3 : Int32))) : ¬ q < 0 ∧ ¬ (256 : Int32) < q ∧ q.toNatClampNeg ≤ 3 := by
  have e := Jvm.Kit.i32_mask x 3 (k := 2) (by decide) (by decide)
  rw [← h] at e
  have h1 : 0 ≤ q.toInt := by rw [e]; exact Int.emod_nonneg _ (by decide)
  have h2 : q.toInt < 4 := by rw [e]; exact Int.emod_lt_of_pos _ (by decide)
  refine ⟨?_, ?_, ?_⟩
  · rw [Int32.lt_iff_toInt_lt, show (0 : Int32).toInt = 0 from rfl]; omega
  · rw [Int32.lt_iff_toInt_lt, show (256 : Int32).toInt = 256 from by decide]; omega
  · rw [Int32.toNatClampNeg]; omega
/-- a sign's two bytes, low one first, and the sign put together again -/
abbrev own_u0 (ch : Int32) : Int32 := nar .byte ((ch >>> ((0 : Int32) &&& 31)).toInt8.toInt32)
abbrev own_u1 (ch : Int32) : Int32 := nar .byte ((ch >>> ((8 : Int32) &&& 31)).toInt8.toInt32)
abbrev own_gc (ch : Int32) : Int32 := nar .char ((((own_u0 ch) &&& (255 : Int32)) <<< ((0 : Int32) &&& 31)) ||| (((own_u1 ch) &&& (255 : Int32)) <<< ((8 : Int32) &&& 31))).toUInt32.toUInt16.toUInt32.toInt32
def own_ch (ch : Int32) : Prop := ∃ x : Int32, ch = x.toUInt32.toUInt16.toUInt32.toInt32
theorem own_nch {ch : Int32} (h : own_ch ch) : nar .char ch = ch := by
  obtain ⟨x, rfl⟩ := h
  show ((x.toUInt32.toUInt16.toUInt32.toInt32).toUInt32.toUInt16).toUInt32.toInt32 = _
  rw [show (x.toUInt32.toUInt16.toUInt32.toInt32).toUInt32 = x.toUInt32.toUInt16.toUInt32 from rfl, UInt16.toUInt16_toUInt32]
def own_sx (b : BitVec 32) : BitVec 32 := ((b.signExtend 8).signExtend 32)
theorem own_w16 (b : BitVec 16) : BitVec.setWidth 16 (BitVec.setWidth 32 b) = b := by rw [BitVec.setWidth_setWidth_of_le _ (by decide), BitVec.setWidth_eq]
theorem own_bits (b : BitVec 16) : (((own_sx (own_sx ((b.setWidth 32).sshiftRight 0)) &&& 255#32) <<< 0) ||| ((own_sx (own_sx ((b.setWidth 32).sshiftRight 8)) &&& 255#32) <<< 8)).setWidth 16 = b := by
  ext i hi
  have : i = 0 ∨ i = 1 ∨ i = 2 ∨ i = 3 ∨ i = 4 ∨ i = 5 ∨ i = 6 ∨ i = 7 ∨ i = 8 ∨ i = 9 ∨ i = 10 ∨ i = 11 ∨ i = 12 ∨ i = 13 ∨ i = 14 ∨ i = 15 := by omega
  rcases this with rfl | rfl | rfl | rfl | rfl | rfl | rfl | rfl | rfl | rfl | rfl | rfl | rfl | rfl | rfl | rfl <;> simp [own_sx, BitVec.getLsbD_signExtend, BitVec.getElem_signExtend, BitVec.getLsbD_sshiftRight, BitVec.getElem_sshiftRight]
theorem own_sr0 (y : Int32) : (y >>> ((0 : Int32) &&& 31)).toBitVec = y.toBitVec.sshiftRight 0 := by
  rw [Int32.toBitVec_shiftRight, show (((0 : Int32) &&& 31).toBitVec.smod 32) = 0#32 from by decide]; rfl
theorem own_sr8 (y : Int32) : (y >>> ((8 : Int32) &&& 31)).toBitVec = y.toBitVec.sshiftRight 8 := by
  rw [Int32.toBitVec_shiftRight, show (((8 : Int32) &&& 31).toBitVec.smod 32) = 8#32 from by decide]; rfl
theorem own_sl0 (y : Int32) : (y <<< ((0 : Int32) &&& 31)).toBitVec = y.toBitVec <<< 0 := by
  rw [Int32.toBitVec_shiftLeft, show (((0 : Int32) &&& 31).toBitVec.smod 32) = 0#32 from by decide]; rfl
theorem own_sl8 (y : Int32) : (y <<< ((8 : Int32) &&& 31)).toBitVec = y.toBitVec <<< 8 := by
  rw [Int32.toBitVec_shiftLeft, show (((8 : Int32) &&& 31).toBitVec.smod 32) = 8#32 from by decide]; rfl
theorem own_by (y : Int32) : (nar .byte (y.toInt8.toInt32)).toBitVec = own_sx (own_sx y.toBitVec) := rfl
theorem own_gch {ch : Int32} (h : own_ch ch) : own_gc ch = ch := by
  obtain ⟨x, hx⟩ := h
  have hc : ch.toBitVec = BitVec.setWidth 32 (BitVec.setWidth 16 x.toBitVec) := by rw [hx]; rfl
  have q := own_bits (x.toBitVec.setWidth 16)
  apply Int32.toBitVec_inj.mp
  show BitVec.setWidth 32 (BitVec.setWidth 16 (BitVec.setWidth 32 (BitVec.setWidth 16 ((((own_u0 ch) &&& (255 : Int32)) <<< ((0 : Int32) &&& 31)).toBitVec ||| (((own_u1 ch) &&& (255 : Int32)) <<< ((8 : Int32) &&& 31)).toBitVec)))) = ch.toBitVec
  have e0 : (own_u0 ch).toBitVec = own_sx (own_sx (ch >>> ((0 : Int32) &&& 31)).toBitVec) := own_by _
  have e1 : (own_u1 ch).toBitVec = own_sx (own_sx (ch >>> ((8 : Int32) &&& 31)).toBitVec) := own_by _
  rw [own_sl0, own_sl8, Int32.toBitVec_and, Int32.toBitVec_and, e0, e1, own_sr0, own_sr8, hc, show (255 : Int32).toBitVec = 255#32 from rfl, q, own_w16]
def own_St (Z : State) : Prop := ∃ (em : Addr) (fm : Value) (cs : Int32), Sta Z Z.heap "java/util/ImmutableCollections" "EMPTY_MAP" "Ljava/util/ImmutableCollections$MapN;" (.ref em) ∧ Sta Z Z.heap "java/lang/String" "COMPACT_STRINGS" "Z" (.int cs) ∧ ¬ cs = (0 : Int32) ∧
  Sta Z Z.heap "jdk/internal/util/Preconditions" "SIOOBE_FORMATTER" "Ljava/util/function/BiFunction;" fm ∧ fm.isRef = true ∧ Sta Z Z.heap "java/lang/StringUTF16" "$assertionsDisabled" "Z" (.int (1 : Int32)) ∧ Sta Z Z.heap "java/lang/StringUTF16" "HI_BYTE_SHIFT" "I" (.int (0 : Int32)) ∧ Sta Z Z.heap "java/lang/StringUTF16" "LO_BYTE_SHIFT" "I" (.int (8 : Int32))
theorem own_si {s : State} {args : Array Value} {C f d : String} {n : Int32} {ty : FieldType} (hf : Fit s) (h0 : (Jvm.Cond.laysStatic C f d).before args s = true) (h1 : (Jvm.Cond.initializedFor C f d).before args s = true) (hd : parseFieldDescriptor d = some ty)
    (h3 : (Jvm.Cond.eq (Jvm.Term.static C f d) (Jvm.Term.int n)).before args s = true) : Sta s s.heap C f d (.int n) := by
  obtain ⟨v, ev, -⟩ := static_fit hf h0 hd
  have hv : v = .int n := Option.some.inj (ev.symm.trans (Cond.eq_int h3 (rfl : (Jvm.Term.int n).eval args s none [] s = some (.int n))))
  subst hv
  exact Sta.start ev (Or.inl h1)
theorem own_st {s : State} {args : Array Value} (hf : Fit s) (h : ∀ d ∈ jdkStatics_1, d.before args s = true) : own_St s := by
  obtain ⟨em, e1⟩ := exa_v (Cond.before_iff.mp (h _ (List.mem_of_getElem? (i := 2) rfl)))
  obtain ⟨cs, e2⟩ := is_v (Cond.before_iff.mp (h _ (List.mem_of_getElem? (i := 8) rfl)))
  obtain ⟨fm, e3, hfm⟩ := isR_v (Cond.before_iff.mp (h _ (List.mem_of_getElem? (i := 15) rfl)))
  have hne := not_v (Cond.before_iff.mp (h _ (List.mem_of_getElem? (i := 9) rfl)))
  refine ⟨em, fm, cs, Sta.start e1 (Or.inl (h _ (List.mem_of_getElem? (i := 1) rfl))), Sta.start e2 (Or.inl (h _ (List.mem_of_getElem? (i := 7) rfl))), fun q => ?_, Sta.start e3 (Or.inl (h _ (List.mem_of_getElem? (i := 14) rfl))), hfm,
    own_si hf (h _ (List.mem_of_getElem? (i := 17) rfl)) (h _ (List.mem_of_getElem? (i := 18) rfl)) (ty := .boolean) (by decide) (h _ (List.mem_of_getElem? (i := 19) rfl)),
    own_si hf (h _ (List.mem_of_getElem? (i := 20) rfl)) (h _ (List.mem_of_getElem? (i := 21) rfl)) (ty := .int) (by decide) (h _ (List.mem_of_getElem? (i := 22) rfl)),
    own_si hf (h _ (List.mem_of_getElem? (i := 23) rfl)) (h _ (List.mem_of_getElem? (i := 24) rfl)) (ty := .int) (by decide) (h _ (List.mem_of_getElem? (i := 25) rfl))⟩
  subst q
  have := eq_i e2 (Term.int_eval (0)) rfl
  rw [this] at hne
  cases hne

theorem d2_0 : decode jdk_72_method_26_code 0 = .ok (.getstatic 81, 3) := by decide +kernel
theorem d2_3 : decode jdk_72_method_26_code 3 = .ok (.areturn, 1) := by decide +kernel
theorem pn_2 : plainName "java/util/Map" = true := by first | (simp [plainName, overriddenIn]; done) | decide +kernel
theorem ef_2_o (m : MethodId)  : entryFrame m #[] 0 = mkF m 0 #[] [] := by first | (simp [entryFrame, mkF, argsToLocals, Value.category]; done) | rfl
def Q2 (Z : State) (em : Addr) (h0 : Heap) (n0 : Nat) (v : Option Value) (h : Heap) (L : List Loc) : Prop := v = some (.ref em) ∧ Fr n0 L ∧ h = h0
set_option maxRecDepth 65536 in
set_option maxHeartbeats 40000000 in
theorem rm2 (l : Launch) (Z : State) (a0 : Array Value) (hw : ∀ d ∈ tables_1, d.before a0 Z = true) (ws : List Jvm.Cond) (em : Addr) (h0 : Heap) (n0 : Nat) (Z0 : n0 ≤ h0.size) (O : Old Z n0 h0) (Zs_EMPTY_MAP : Sta Z Z.heap "java/util/ImmutableCollections" "EMPTY_MAP" "Ljava/util/ImmutableCollections$MapN;" (.ref em)) :
    MetFree l (⟨"java/util/Map", "of", "()Ljava/util/Map;"⟩ : MethodName) (head1 (Jvm.Cond.code (⟨"java/util/Map", "of", "()Ljava/util/Map;"⟩ : MethodName) jdk_72_method_26_code 0 (some (.object "java/util/Map")) :: ws) ({ frames := 0, cells := 0, slots := 0, locals := 0 } : Room)) (fun a U => a = #[] ∧ Z.Warmed39 U.vm ∧ U.heap = h0) (fun _ _ _ _ _ => True) (fun _ U o U' => ∃ v L, o = .returned v ∧ Q2 Z em h0 n0 v U'.heap L ∧ FrameEnd U o U' L ({ frames := 0, cells := 0, slots := 0, locals := 0 } : Room).cells ({ frames := 0, cells := 0, slots := 0, locals := 0 } : Room).slots) := by
  refine MetFree.of_bodySF (plainFor_of_name pn_2) hisR ?_
  intro p e s m args below meth c s₁ Bd hml0 hP hK
  obtain ⟨rfl, hZ, hh⟩ := hP
  have hx := Bd.exec
  have hby := Bd.bytes
  have hml : c.maxLocals = 0 := hml0
  have hown : s.vm.findClass "java/util/Map" = some m.cls := findClass_of_methodNamed Bd.named
  have hnm := (name_of_methodNamed Bd.named Bd.method).1
  have X0 : Stand p l e ({ frames := 0, cells := 0, slots := 0, locals := 0 } : Room) s m #[] below meth c s₁ [] 0 0 := Stand.of_body Bd
  have e0 : s₁.heap = h0 := by rw [← hh, Bd.state]; rfl
  have N0 := Fr.nil n0
  have pre0 : ∀ t, Steps p.tables e below (s₁.setTop (mkF m 0 #[] [])) t → Steps p.tables e below (s₁.setTop (entryFrame m #[] 0)) t := fun t k => castTop (ef_2_o m ) k
  obtain ⟨T1, X1, e1, st1⟩ := getS2 X0 hx hZ hown (host := "") (Or.inl (hw _ (List.mem_of_getElem? (i := 18) rfl))) Via.refl e0 (Zs_EMPTY_MAP.ext O.2) (g := (mkF m 0 #[] [])) rfl (hb hby d2_0)
  have J2 : ∀ t, Steps p.tables e below (T1.setTop (mkF m 3 #[] [(.ref em)])) t → Steps p.tables e below (s₁.setTop (entryFrame m #[] 0)) t := fun t k => pre0 t (st1 t k)
  obtain ⟨fs, hr, hrun, hended, hW, hsame⟩ := X1.leave (v := some (.ref em)) (fun h => by rw [Bd.returns] at h; cases h)
  refine ⟨_, _, J2 _ ?_, hrun, hended, _, _, rfl, ?_, ⟨_, rfl⟩, hW, hsame.mono (by decide) (by decide)⟩
  · show Steps p.tables e below (T1.setTop (mkF m 3 #[] [(.ref em)])) _
    jvm_step X1.here [X1.here.top, hx, (hb hby d2_3), X1.method', Bd.returns, Value.isRef, FieldType.isReference]
    first | (intro acts; rw [hr _ acts rfl rfl rfl]) | rw [hr _ _ rfl rfl rfl]
    exact Steps.refl _
  · show Q2 Z em h0 n0 _ T1.heap _
    rw [e1]
    exact ⟨rfl, N0, rfl⟩
theorem d5_0 : decode prog_19_method_1_code 0 = .ok (.aload_n 0, 1) := by decide +kernel
theorem d5_1 : decode prog_19_method_1_code 1 = .ok (.aload_n 1, 1) := by decide +kernel
theorem d5_2 : decode prog_19_method_1_code 2 = .ok (.putfield 1, 3) := by decide +kernel
theorem d5_5 : decode prog_19_method_1_code 5 = .ok (.aload_n 0, 1) := by decide +kernel
theorem d5_6 : decode prog_19_method_1_code 6 = .ok (.invokespecial 7, 3) := by decide +kernel
theorem d5_9 : decode prog_19_method_1_code 9 = .ok (.return_, 1) := by decide +kernel
theorem pn_5 : plainName "com/example/capwright/capwright/csv/CsvRow$FieldText" = true := by first | (simp [plainName, overriddenIn]; done) | decide +kernel
theorem ef_5_xx (m : MethodId) (x0 : Addr) (x1 : Addr) : entryFrame m #[(.ref x0), (.ref x1)] 2 = mkF m 0 #[.val (.ref x0), .val (.ref x1)] [] := by first | (simp [entryFrame, mkF, argsToLocals, Value.category]; done) | rfl
def Q5 (Z : State) (a1 : Addr) (a2 : Addr) (u1 : Value) (h0 : Heap) (n0 : Nat) (v : Option Value) (h : Heap) (L : List Loc) : Prop := v = none ∧ Fr n0 L ∧ Keep h0 h [a1] ∧ (Exa Z h a1 "com/example/capwright/capwright/csv/CsvRow$FieldText")
set_option maxRecDepth 65536 in
set_option maxHeartbeats 40000000 in
theorem rm5 (l : Launch) (Z : State) (a0 : Array Value) (hw : ∀ d ∈ tables_1, d.before a0 Z = true) (ws : List Jvm.Cond) (a1 : Addr) (a2 : Addr) (u1 : Value) (h0 : Heap) (n0 : Nat) (Z0 : n0 ≤ h0.size) (E_a1 : Exa Z h0 a1 "com/example/capwright/capwright/csv/CsvRow$FieldText") (g_a1 : n0 ≤ a1) (F_this_0_a1 : Fld Z h0 a1 "com/example/capwright/capwright/csv/CsvRow$FieldText" "this$0" "Lcom/example/capwright/capwright/csv/CsvRow;" u1) :
    MetFree l (⟨"com/example/capwright/capwright/csv/CsvRow$FieldText", "<init>", "(Lcom/example/capwright/capwright/csv/CsvRow;)V"⟩ : MethodName) (head1 (Jvm.Cond.code (⟨"com/example/capwright/capwright/csv/CsvRow$FieldText", "<init>", "(Lcom/example/capwright/capwright/csv/CsvRow;)V"⟩ : MethodName) prog_19_method_1_code 2 none :: ws) ({ frames := 1, cells := 0, slots := 0, locals := 12 } : Room)) (fun a U => a = #[(.ref a1), (.ref a2)] ∧ Z.Warmed39 U.vm ∧ U.heap = h0) (fun _ _ _ _ _ => True) (fun _ U o U' => ∃ v L, o = .returned v ∧ Q5 Z a1 a2 u1 h0 n0 v U'.heap L ∧ FrameEnd U o U' L ({ frames := 1, cells := 0, slots := 0, locals := 12 } : Room).cells ({ frames := 1, cells := 0, slots := 0, locals := 12 } : Room).slots) := by
  refine MetFree.of_bodySF (plainFor_of_name pn_5) hisR ?_
  intro p e s m args below meth c s₁ Bd hml0 hP hK
  obtain ⟨rfl, hZ, hh⟩ := hP
  have hx := Bd.exec
  have hby := Bd.bytes
  have hml : c.maxLocals = 2 := hml0
  have hown : s.vm.findClass "com/example/capwright/capwright/csv/CsvRow$FieldText" = some m.cls := findClass_of_methodNamed Bd.named
  have hnm := (name_of_methodNamed Bd.named Bd.method).1
  have X0 : Stand p l e ({ frames := 1, cells := 0, slots := 0, locals := 12 } : Room) s m #[(.ref a1), (.ref a2)] below meth c s₁ [] 0 0 := Stand.of_body Bd
  have e0 : s₁.heap = h0 := by rw [← hh, Bd.state]; rfl
  have N0 := Fr.nil n0
  have pre0 : ∀ t, Steps p.tables e below (s₁.setTop (mkF m 0 #[.val (.ref a1), .val (.ref a2)] [])) t → Steps p.tables e below (s₁.setTop (entryFrame m #[(.ref a1), (.ref a2)] 2)) t := fun t k => castTop (ef_5_xx m a1 a2) k
  have J1 : ∀ t, Steps p.tables e below (s₁.setTop (mkF m 2 #[.val (.ref a1), .val (.ref a2)] [(.ref a2), (.ref a1)])) t → Steps p.tables e below (s₁.setTop (entryFrame m #[(.ref a1), (.ref a2)] 2)) t := fun t k => pre0 t (by
      show Steps p.tables e below (s₁.setTop (mkF m 0 #[.val (.ref a1), .val (.ref a2)] [])) _
      refine XS.aloadN X0.here hx rfl (hb hby d5_0) rfl rfl ?_
      show Steps p.tables e below (s₁.setTop (mkF m 1 #[.val (.ref a1), .val (.ref a2)] [(.ref a1)])) _
      refine XS.aloadN X0.here hx rfl (hb hby d5_1) rfl rfl ?_
      exact k)
  obtain ⟨T2, h2, X2, e2, W2, st2⟩ := putF X0 hx hZ hown (host := "") (Or.inl (hw _ (List.mem_of_getElem? (i := 34) rfl))) Via.refl e0 F_this_0_a1 E_a1 (Or.inr ⟨(hw _ (List.mem_of_getElem? (i := 35) rfl)), rfl, hnm⟩) (hw _ (List.mem_of_getElem? (i := 29) rfl)) (ty := (.object "com/example/capwright/capwright/csv/CsvRow")) (by decide) rfl rfl (g := (mkF m 2 #[.val (.ref a1), .val (.ref a2)] [(.ref a2), (.ref a1)])) rfl rfl (hb hby d5_2)
  have J3 : ∀ t, Steps p.tables e below (T2.setTop (mkF m 5 #[.val (.ref a1), .val (.ref a2)] [])) t → Steps p.tables e below (s₁.setTop (entryFrame m #[(.ref a1), (.ref a2)] 2)) t := fun t k => J1 t (st2 t k)
  have Z4 : n0 ≤ h2.size := Nat.le_trans Z0 (Keep.of_wr W2).1
  have KK5 : Keep h0 h2 [a1] := (Keep.refl h0 [a1]).wr W2 (Or.inl (List.mem_of_getElem? (i := 0) rfl))
  have N6 := Fr.snoc X2 N0 g_a1
  have Fw2 := F_this_0_a1.same W2
  have J7 : ∀ t, Steps p.tables e below (T2.setTop (mkF m 6 #[.val (.ref a1), .val (.ref a2)] [(.ref a1)])) t → Steps p.tables e below (s₁.setTop (entryFrame m #[(.ref a1), (.ref a2)] 2)) t := fun t k => J3 t (by
      show Steps p.tables e below (T2.setTop (mkF m 5 #[.val (.ref a1), .val (.ref a2)] [])) _
      refine XS.aloadN X2.here hx rfl (hb hby d5_5) rfl rfl ?_
      exact k)
  obtain ⟨T8, X8, e8, st8⟩ := initO X2 hx hZ hown (hw _ (List.mem_of_getElem? (i := 36) rfl)) (hw _ (List.mem_of_getElem? (i := 26) rfl)) (hw _ (List.mem_of_getElem? (i := 27) rfl)) e2 (g := (mkF m 6 #[.val (.ref a1), .val (.ref a2)] [(.ref a1)])) rfl (by rw [hml]; rfl) rfl (hb hby d5_6) (by decide) (W := 0) (by show 2 * 0 + _ ≤ _; exact Nat.le_of_eq rfl) (by decide)
  have J9 : ∀ t, Steps p.tables e below (T8.setTop (mkF m 9 #[.val (.ref a1), .val (.ref a2)] [])) t → Steps p.tables e below (s₁.setTop (entryFrame m #[(.ref a1), (.ref a2)] 2)) t := fun t k => J7 t (st8 t k)
  obtain ⟨fs, hr, hrun, hended, hW, hsame⟩ := X8.leave (v := none) (fun _ => rfl)
  have f10 := E_a1.wr W2
  refine ⟨_, _, J9 _ ?_, hrun, hended, _, _, rfl, ?_, ⟨_, rfl⟩, hW, hsame.mono (by decide) (by decide)⟩
  · show Steps p.tables e below (T8.setTop (mkF m 9 #[.val (.ref a1), .val (.ref a2)] [])) _
    exact X8.returnOut hx Bd.returns (hb hby d5_9) hr
  · show Q5 Z a1 a2 u1 h0 n0 _ T8.heap _
    rw [e8]
    exact ⟨rfl, N6, KK5, f10⟩
theorem d3_0 : decode prog_18_method_2_code 0 = .ok (.aload_n 0, 1) := by decide +kernel
theorem d3_1 : decode prog_18_method_2_code 1 = .ok (.invokespecial 13, 3) := by decide +kernel
theorem d3_4 : decode prog_18_method_2_code 4 = .ok (.aload_n 0, 1) := by decide +kernel
theorem d3_5 : decode prog_18_method_2_code 5 = .ok (.new 18, 3) := by decide +kernel
theorem d3_8 : decode prog_18_method_2_code 8 = .ok (.dup, 1) := by decide +kernel
theorem d3_9 : decode prog_18_method_2_code 9 = .ok (.aload_n 0, 1) := by decide +kernel
theorem d3_10 : decode prog_18_method_2_code 10 = .ok (.invokespecial 20, 3) := by decide +kernel
theorem pd_0 : parseMethodDescriptor "(Lcom/example/capwright/capwright/csv/CsvRow;)V" = some ⟨[(.object "com/example/capwright/capwright/csv/CsvRow")], none⟩ := by decide +kernel
theorem d3_13 : decode prog_18_method_2_code 13 = .ok (.putfield 23, 3) := by decide +kernel
theorem d3_16 : decode prog_18_method_2_code 16 = .ok (.aload_n 0, 1) := by decide +kernel
theorem d3_17 : decode prog_18_method_2_code 17 = .ok (.aload_n 1, 1) := by decide +kernel
theorem d3_18 : decode prog_18_method_2_code 18 = .ok (.putfield 27, 3) := by decide +kernel
theorem d3_21 : decode prog_18_method_2_code 21 = .ok (.aload_n 0, 1) := by decide +kernel
theorem d3_22 : decode prog_18_method_2_code 22 = .ok (.iload_n 2, 1) := by decide +kernel
theorem d3_23 : decode prog_18_method_2_code 23 = .ok (.putfield 31, 3) := by decide +kernel
theorem d3_26 : decode prog_18_method_2_code 26 = .ok (.aload_n 0, 1) := by decide +kernel
theorem d3_27 : decode prog_18_method_2_code 27 = .ok (.aload_n 3, 1) := by decide +kernel
theorem d3_28 : decode prog_18_method_2_code 28 = .ok (.putfield 35, 3) := by decide +kernel
theorem d3_31 : decode prog_18_method_2_code 31 = .ok (.aload_n 0, 1) := by decide +kernel
theorem d3_32 : decode prog_18_method_2_code 32 = .ok (.aload 4, 2) := by decide +kernel
theorem d3_34 : decode prog_18_method_2_code 34 = .ok (.putfield 39, 3) := by decide +kernel
theorem d3_37 : decode prog_18_method_2_code 37 = .ok (.aload_n 0, 1) := by decide +kernel
theorem d3_38 : decode prog_18_method_2_code 38 = .ok (.aload 5, 2) := by decide +kernel
theorem d3_40 : decode prog_18_method_2_code 40 = .ok (.putfield 43, 3) := by decide +kernel
theorem d3_43 : decode prog_18_method_2_code 43 = .ok (.aload_n 0, 1) := by decide +kernel
theorem d3_44 : decode prog_18_method_2_code 44 = .ok (.iload 6, 2) := by decide +kernel
theorem d3_46 : decode prog_18_method_2_code 46 = .ok (.putfield 47, 3) := by decide +kernel
theorem d3_49 : decode prog_18_method_2_code 49 = .ok (.aload_n 0, 1) := by decide +kernel
theorem d3_50 : decode prog_18_method_2_code 50 = .ok (.iload 6, 2) := by decide +kernel
theorem d3_52 : decode prog_18_method_2_code 52 = .ok (.ifCond .ne 7, 3) := by decide +kernel
theorem d3_55 : decode prog_18_method_2_code 55 = .ok (.iconst 0, 1) := by decide +kernel
theorem d3_56 : decode prog_18_method_2_code 56 = .ok (.goto 10, 3) := by decide +kernel
theorem d3_66 : decode prog_18_method_2_code 66 = .ok (.putfield 50, 3) := by decide +kernel
theorem d3_69 : decode prog_18_method_2_code 69 = .ok (.return_, 1) := by decide +kernel
theorem pn_3 : plainName "com/example/capwright/capwright/csv/CsvRow" = true := by first | (simp [plainName, overriddenIn]; done) | decide +kernel
theorem ef_3_xxxxxxx (m : MethodId) (x0 : Addr) (x1 : Addr) (x2 : Int32) (x3 : Addr) (x4 : Addr) (x5 : Addr) (x6 : Int32) : entryFrame m #[(.ref x0), (.ref x1), (.int x2), (.ref x3), (.ref x4), (.ref x5), (.int x6)] 7 = mkF m 0 #[.val (.ref x0), .val (.ref x1), .val (.int x2), .val (.ref x3), .val (.ref x4), .val (.ref x5), .val (.int x6)] [] := by first | (simp [entryFrame, mkF, argsToLocals, Value.category]; done) | rfl
def Q3 (Z : State) (a1 : Addr) (a2 : Addr) (em : Addr) (ca : Addr) (ea : Addr) (u0 : Value) (u1 : Value) (u2 : Value) (u3 : Value) (u4 : Value) (u5 : Value) (u6 : Value) (u7 : Value) (h0 : Heap) (n0 : Nat) (v : Option Value) (h : Heap) (L : List Loc) : Prop := v = none ∧ Fr n0 L ∧ Keep h0 h [a1] ∧ (Exa Z h a1 "com/example/capwright/capwright/csv/CsvRow") ∧ (Fld Z h a1 "com/example/capwright/capwright/csv/CsvRow" "line" "I" (.int (0 : Int32))) ∧ (Fld Z h a1 "com/example/capwright/capwright/csv/CsvRow" "chars" "[C" (.ref ca)) ∧ (Fld Z h a1 "com/example/capwright/capwright/csv/CsvRow" "ends" "[I" (.ref ea)) ∧ (Fld Z h a1 "com/example/capwright/capwright/csv/CsvRow" "size" "I" (.int (0 : Int32))) ∧ (Fld Z h a1 "com/example/capwright/capwright/csv/CsvRow" "length" "I" (.int (0 : Int32)))
set_option maxRecDepth 65536 in
set_option maxHeartbeats 40000000 in
theorem rm3 (l : Launch) (Z : State) (a0 : Array Value) (hw : ∀ d ∈ tables_1, d.before a0 Z = true) (ws : List Jvm.Cond) (a1 : Addr) (a2 : Addr) (em : Addr) (ca : Addr) (ea : Addr) (u0 : Value) (u1 : Value) (u2 : Value) (u3 : Value) (u4 : Value) (u5 : Value) (u6 : Value) (u7 : Value) (h0 : Heap) (n0 : Nat) (Z0 : n0 ≤ h0.size) (E_a1 : Exa Z h0 a1 "com/example/capwright/capwright/csv/CsvRow") (g_a1 : n0 ≤ a1) (F_fieldText_a1 : Fld Z h0 a1 "com/example/capwright/capwright/csv/CsvRow" "fieldText" "Lcom/example/capwright/capwright/csv/CsvRow$FieldText;" u0) (F_file_a1 : Fld Z h0 a1 "com/example/capwright/capwright/csv/CsvRow" "file" "Ljava/lang/String;" u1) (F_line_a1 : Fld Z h0 a1 "com/example/capwright/capwright/csv/CsvRow" "line" "I" u2) (F_columns_a1 : Fld Z h0 a1 "com/example/capwright/capwright/csv/CsvRow" "columns" "Ljava/util/Map;" u3) (F_chars_a1 : Fld Z h0 a1 "com/example/capwright/capwright/csv/CsvRow" "chars" "[C" u4) (F_ends_a1 : Fld Z h0 a1 "com/example/capwright/capwright/csv/CsvRow" "ends" "[I" u5) (F_size_a1 : Fld Z h0 a1 "com/example/capwright/capwright/csv/CsvRow" "size" "I" u6) (F_length_a1 : Fld Z h0 a1 "com/example/capwright/capwright/csv/CsvRow" "length" "I" u7) :
    MetFree l (⟨"com/example/capwright/capwright/csv/CsvRow", "<init>", "(Ljava/lang/String;ILjava/util/Map;[C[II)V"⟩ : MethodName) (head1 (Jvm.Cond.code (⟨"com/example/capwright/capwright/csv/CsvRow", "<init>", "(Ljava/lang/String;ILjava/util/Map;[C[II)V"⟩ : MethodName) prog_18_method_2_code 7 none :: ws) ({ frames := 2, cells := 1, slots := 3, locals := 27 } : Room)) (fun a U => a = #[(.ref a1), (.ref a2), (.int (0 : Int32)), (.ref em), (.ref ca), (.ref ea), (.int (0 : Int32))] ∧ Z.Warmed39 U.vm ∧ U.heap = h0) (fun _ _ _ _ _ => True) (fun _ U o U' => ∃ v L, o = .returned v ∧ Q3 Z a1 a2 em ca ea u0 u1 u2 u3 u4 u5 u6 u7 h0 n0 v U'.heap L ∧ FrameEnd U o U' L ({ frames := 2, cells := 1, slots := 3, locals := 27 } : Room).cells ({ frames := 2, cells := 1, slots := 3, locals := 27 } : Room).slots) := by
  refine MetFree.of_bodySF (plainFor_of_name pn_3) hisR ?_
  intro p e s m args below meth c s₁ Bd hml0 hP hK
  obtain ⟨rfl, hZ, hh⟩ := hP
  have hx := Bd.exec
  have hby := Bd.bytes
  have hml : c.maxLocals = 7 := hml0
  have hown : s.vm.findClass "com/example/capwright/capwright/csv/CsvRow" = some m.cls := findClass_of_methodNamed Bd.named
  have hnm := (name_of_methodNamed Bd.named Bd.method).1
  have X0 : Stand p l e ({ frames := 2, cells := 1, slots := 3, locals := 27 } : Room) s m #[(.ref a1), (.ref a2), (.int (0 : Int32)), (.ref em), (.ref ca), (.ref ea), (.int (0 : Int32))] below meth c s₁ [] 0 0 := Stand.of_body Bd
  have e0 : s₁.heap = h0 := by rw [← hh, Bd.state]; rfl
  have N0 := Fr.nil n0
  have pre0 : ∀ t, Steps p.tables e below (s₁.setTop (mkF m 0 #[.val (.ref a1), .val (.ref a2), .val (.int (0 : Int32)), .val (.ref em), .val (.ref ca), .val (.ref ea), .val (.int (0 : Int32))] [])) t → Steps p.tables e below (s₁.setTop (entryFrame m #[(.ref a1), (.ref a2), (.int (0 : Int32)), (.ref em), (.ref ca), (.ref ea), (.int (0 : Int32))] 7)) t := fun t k => castTop (ef_3_xxxxxxx m a1 a2 (0 : Int32) em ca ea (0 : Int32)) k
  have J1 : ∀ t, Steps p.tables e below (s₁.setTop (mkF m 1 #[.val (.ref a1), .val (.ref a2), .val (.int (0 : Int32)), .val (.ref em), .val (.ref ca), .val (.ref ea), .val (.int (0 : Int32))] [(.ref a1)])) t → Steps p.tables e below (s₁.setTop (entryFrame m #[(.ref a1), (.ref a2), (.int (0 : Int32)), (.ref em), (.ref ca), (.ref ea), (.int (0 : Int32))] 7)) t := fun t k => pre0 t (by
      show Steps p.tables e below (s₁.setTop (mkF m 0 #[.val (.ref a1), .val (.ref a2), .val (.int (0 : Int32)), .val (.ref em), .val (.ref ca), .val (.ref ea), .val (.int (0 : Int32))] [])) _
      refine XS.aloadN X0.here hx rfl (hb hby d3_0) rfl rfl ?_
      exact k)
  obtain ⟨T2, X2, e2, st2⟩ := initO X0 hx hZ hown (hw _ (List.mem_of_getElem? (i := 25) rfl)) (hw _ (List.mem_of_getElem? (i := 26) rfl)) (hw _ (List.mem_of_getElem? (i := 27) rfl)) e0 (g := (mkF m 1 #[.val (.ref a1), .val (.ref a2), .val (.int (0 : Int32)), .val (.ref em), .val (.ref ca), .val (.ref ea), .val (.int (0 : Int32))] [(.ref a1)])) rfl (by rw [hml]; rfl) rfl (hb hby d3_1) (by decide) (W := 0) (by show 2 * 0 + _ ≤ _; exact Nat.le_of_eq rfl) (by decide)
  have J3 : ∀ t, Steps p.tables e below (T2.setTop (mkF m 4 #[.val (.ref a1), .val (.ref a2), .val (.int (0 : Int32)), .val (.ref em), .val (.ref ca), .val (.ref ea), .val (.int (0 : Int32))] [])) t → Steps p.tables e below (s₁.setTop (entryFrame m #[(.ref a1), (.ref a2), (.int (0 : Int32)), (.ref em), (.ref ca), (.ref ea), (.int (0 : Int32))] 7)) t := fun t k => J1 t (st2 t k)
  have J4 : ∀ t, Steps p.tables e below (T2.setTop (mkF m 5 #[.val (.ref a1), .val (.ref a2), .val (.int (0 : Int32)), .val (.ref em), .val (.ref ca), .val (.ref ea), .val (.int (0 : Int32))] [(.ref a1)])) t → Steps p.tables e below (s₁.setTop (entryFrame m #[(.ref a1), (.ref a2), (.int (0 : Int32)), (.ref em), (.ref ca), (.ref ea), (.int (0 : Int32))] 7)) t := fun t k => J3 t (by
      show Steps p.tables e below (T2.setTop (mkF m 4 #[.val (.ref a1), .val (.ref a2), .val (.int (0 : Int32)), .val (.ref em), .val (.ref ca), .val (.ref ea), .val (.int (0 : Int32))] [])) _
      refine XS.aloadN X2.here hx rfl (hb hby d3_4) rfl rfl ?_
      exact k)
  obtain ⟨T5, h5, X5, e5, E5, A5, D5, -, st5⟩ := newO X2 hx hZ hown (hw _ (List.mem_of_getElem? (i := 28) rfl)) (hw _ (List.mem_of_getElem? (i := 29) rfl)) (hw _ (List.mem_of_getElem? (i := 30) rfl)) e2 (g := (mkF m 5 #[.val (.ref a1), .val (.ref a2), .val (.int (0 : Int32)), .val (.ref em), .val (.ref ca), .val (.ref ea), .val (.int (0 : Int32))] [(.ref a1)])) rfl (hb hby d3_5) (by decide) (by decide)
  obtain ⟨b5, g5⟩ : ∃ z, z = h0.size := ⟨_, rfl⟩
  rw [← g5] at A5 D5 st5
  have J6 : ∀ t, Steps p.tables e below (T5.setTop (mkF m 8 #[.val (.ref a1), .val (.ref a2), .val (.int (0 : Int32)), .val (.ref em), .val (.ref ca), .val (.ref ea), .val (.int (0 : Int32))] [(.ref b5), (.ref a1)])) t → Steps p.tables e below (s₁.setTop (entryFrame m #[(.ref a1), (.ref a2), (.int (0 : Int32)), (.ref em), (.ref ca), (.ref ea), (.int (0 : Int32))] 7)) t := fun t k => J4 t (st5 t k)
  have ne7 : a1 ≠ b5 := Nat.ne_of_lt (Nat.lt_of_lt_of_le E_a1.lt (Nat.le_of_eq g5.symm))
  have ge8 : n0 ≤ b5 := Nat.le_trans Z0 (Nat.le_of_eq g5.symm)
  have sz9 : h0.size ≤ b5 := Nat.le_trans (Keep.refl h0 [a1]).1 (Nat.le_of_eq g5.symm)
  have Z10 : n0 ≤ h5.size := Nat.le_trans Z0 E5.1
  have KK11 : Keep h0 h5 [a1] := (Keep.refl h0 [a1]).ext E5
  have F5_this_0 : Fld Z h5 b5 "com/example/capwright/capwright/csv/CsvRow$FieldText" "this$0" "Lcom/example/capwright/capwright/csv/CsvRow;" .null := D5 (Or.inr (hw _ (List.mem_of_getElem? (i := 35) rfl))) (ty := (.object "com/example/capwright/capwright/csv/CsvRow")) (by decide)
  have J12 : ∀ t, Steps p.tables e below (T5.setTop (mkF m 10 #[.val (.ref a1), .val (.ref a2), .val (.int (0 : Int32)), .val (.ref em), .val (.ref ca), .val (.ref ea), .val (.int (0 : Int32))] [(.ref a1), (.ref b5), (.ref b5), (.ref a1)])) t → Steps p.tables e below (s₁.setTop (entryFrame m #[(.ref a1), (.ref a2), (.int (0 : Int32)), (.ref em), (.ref ca), (.ref ea), (.int (0 : Int32))] 7)) t := fun t k => J6 t (by
      show Steps p.tables e below (T5.setTop (mkF m 8 #[.val (.ref a1), .val (.ref a2), .val (.int (0 : Int32)), .val (.ref em), .val (.ref ca), .val (.ref ea), .val (.int (0 : Int32))] [(.ref b5), (.ref a1)])) _
      refine XS.dup X5.here hx rfl (hb hby d3_8) rfl rfl ?_
      show Steps p.tables e below (T5.setTop (mkF m 9 #[.val (.ref a1), .val (.ref a2), .val (.int (0 : Int32)), .val (.ref em), .val (.ref ca), .val (.ref ea), .val (.int (0 : Int32))] [(.ref b5), (.ref b5), (.ref a1)])) _
      refine XS.aloadN X5.here hx rfl (hb hby d3_9) rfl rfl ?_
      exact k)
  obtain ⟨_, _, ⟨T13, L13, k13, n13⟩, -, X13, ⟨Lc13, hQ13, l13, y13, z13⟩, st13⟩ := own_refBack X5 hx hZ (y := (⟨"com/example/capwright/capwright/csv/CsvRow$FieldText", "<init>", "(Lcom/example/capwright/capwright/csv/CsvRow;)V"⟩ : MethodName)) rfl hown (hw _ (List.mem_of_getElem? (i := 31) rfl)) (hw _ (List.mem_of_getElem? (i := 32) rfl)) (hw _ (List.mem_of_getElem? (i := 33) rfl)) (by decide) (backOf (W := 2) (rm5 l Z a0 hw [] b5 a1 .null h5 n0 Z10 A5 ge8 F5_this_0) hZ (hw _ (List.mem_of_getElem? (i := 33) rfl)) (hw _ (List.mem_of_getElem? (i := 30) rfl)) (by decide) (by decide)) (g := (mkF m 10 #[.val (.ref a1), .val (.ref a2), .val (.int (0 : Int32)), .val (.ref em), .val (.ref ca), .val (.ref ea), .val (.int (0 : Int32))] [(.ref a1), (.ref b5), (.ref b5), (.ref a1)])) rfl (by rw [hml]; rfl) (Steps.refl _) (a := b5) (argsL := [(.ref a1)]) (rest := [(.ref b5), (.ref a1)]) (lenOf pd_0 rfl) rfl (by show 2 * 0 + _ ≤ _; exact Nat.le_of_eq rfl) (hb hby d3_10) (fun _ _ => ⟨rfl, e5, (by decide : 1 + 0 ≤ _), (by decide : 3 + 0 ≤ _)⟩)
  dsimp only [Pt.U, Pt.locs, Pt.cells, Pt.slots] at X13 l13 y13 z13 st13 hQ13
  subst y13 z13
  obtain ⟨rfl, Nq13, K13, p13_1⟩ := hQ13
  have N14 : Fr n0 L13 := by rw [l13]; exact Fr.app N0 Nq13
  have J15 : ∀ t, Steps p.tables e below (T13.setTop (mkF m 13 #[.val (.ref a1), .val (.ref a2), .val (.int (0 : Int32)), .val (.ref em), .val (.ref ca), .val (.ref ea), .val (.int (0 : Int32))] [(.ref b5), (.ref a1)])) t → Steps p.tables e below (s₁.setTop (entryFrame m #[(.ref a1), (.ref a2), (.int (0 : Int32)), (.ref em), (.ref ca), (.ref ea), (.int (0 : Int32))] 7)) t := fun t k => J12 t (st13.trans k)
  have Z16 : n0 ≤ T13.heap.size := Nat.le_trans Z10 K13.1
  have KK17 : Keep h0 T13.heap [a1] := KK11.trans K13 (allS (Or.inr sz9) all0)
  have f18 := F_fieldText_a1.ext E5
  have f19 := f18.keep K13 (ninS ne7 nin0)
  have f20 := E_a1.ext E5
  have f21 := f20.keep K13
  obtain ⟨T22, h22, X22, e22, W22, st22⟩ := putF X13 hx hZ hown (host := "") (Or.inl (hw _ (List.mem_of_getElem? (i := 37) rfl))) Via.refl rfl f19 f21 (Or.inr ⟨(hw _ (List.mem_of_getElem? (i := 38) rfl)), rfl, hnm⟩) (hw _ (List.mem_of_getElem? (i := 1) rfl)) (ty := (.object "com/example/capwright/capwright/csv/CsvRow$FieldText")) (by decide) rfl rfl (g := (mkF m 13 #[.val (.ref a1), .val (.ref a2), .val (.int (0 : Int32)), .val (.ref em), .val (.ref ca), .val (.ref ea), .val (.int (0 : Int32))] [(.ref b5), (.ref a1)])) rfl rfl (hb hby d3_13)
  have J23 : ∀ t, Steps p.tables e below (T22.setTop (mkF m 16 #[.val (.ref a1), .val (.ref a2), .val (.int (0 : Int32)), .val (.ref em), .val (.ref ca), .val (.ref ea), .val (.int (0 : Int32))] [])) t → Steps p.tables e below (s₁.setTop (entryFrame m #[(.ref a1), (.ref a2), (.int (0 : Int32)), (.ref em), (.ref ca), (.ref ea), (.int (0 : Int32))] 7)) t := fun t k => J15 t (st22 t k)
  have Z24 : n0 ≤ h22.size := Nat.le_trans Z16 (Keep.of_wr W22).1
  have KK25 : Keep h0 h22 [a1] := KK17.wr W22 (Or.inl (List.mem_of_getElem? (i := 0) rfl))
  have N26 := Fr.snoc X22 N14 g_a1
  have Fw22 := f19.same W22
  have J27 : ∀ t, Steps p.tables e below (T22.setTop (mkF m 18 #[.val (.ref a1), .val (.ref a2), .val (.int (0 : Int32)), .val (.ref em), .val (.ref ca), .val (.ref ea), .val (.int (0 : Int32))] [(.ref a2), (.ref a1)])) t → Steps p.tables e below (s₁.setTop (entryFrame m #[(.ref a1), (.ref a2), (.int (0 : Int32)), (.ref em), (.ref ca), (.ref ea), (.int (0 : Int32))] 7)) t := fun t k => J23 t (by
      show Steps p.tables e below (T22.setTop (mkF m 16 #[.val (.ref a1), .val (.ref a2), .val (.int (0 : Int32)), .val (.ref em), .val (.ref ca), .val (.ref ea), .val (.int (0 : Int32))] [])) _
      refine XS.aloadN X22.here hx rfl (hb hby d3_16) rfl rfl ?_
      show Steps p.tables e below (T22.setTop (mkF m 17 #[.val (.ref a1), .val (.ref a2), .val (.int (0 : Int32)), .val (.ref em), .val (.ref ca), .val (.ref ea), .val (.int (0 : Int32))] [(.ref a1)])) _
      refine XS.aloadN X22.here hx rfl (hb hby d3_17) rfl rfl ?_
      exact k)
  have f28 := F_file_a1.ext E5
  have f29 := f28.keep K13 (ninS ne7 nin0)
  have f30 := f29.other W22 (Or.inr (slot_ne (Or.inr (hw _ (List.mem_of_getElem? (i := 40) rfl))) (Or.inr (hw _ (List.mem_of_getElem? (i := 38) rfl))) (by decide) (t := (.object "java/lang/String")) (t' := (.object "com/example/capwright/capwright/csv/CsvRow$FieldText")) (by decide) (by decide)))
  have f31 := f21.wr W22
  obtain ⟨T32, h32, X32, e32, W32, st32⟩ := putF X22 hx hZ hown (host := "") (Or.inl (hw _ (List.mem_of_getElem? (i := 39) rfl))) Via.refl e22 f30 f31 (Or.inr ⟨(hw _ (List.mem_of_getElem? (i := 40) rfl)), rfl, hnm⟩) (hw _ (List.mem_of_getElem? (i := 1) rfl)) (ty := (.object "java/lang/String")) (by decide) rfl rfl (g := (mkF m 18 #[.val (.ref a1), .val (.ref a2), .val (.int (0 : Int32)), .val (.ref em), .val (.ref ca), .val (.ref ea), .val (.int (0 : Int32))] [(.ref a2), (.ref a1)])) rfl rfl (hb hby d3_18)
  have J33 : ∀ t, Steps p.tables e below (T32.setTop (mkF m 21 #[.val (.ref a1), .val (.ref a2), .val (.int (0 : Int32)), .val (.ref em), .val (.ref ca), .val (.ref ea), .val (.int (0 : Int32))] [])) t → Steps p.tables e below (s₁.setTop (entryFrame m #[(.ref a1), (.ref a2), (.int (0 : Int32)), (.ref em), (.ref ca), (.ref ea), (.int (0 : Int32))] 7)) t := fun t k => J27 t (st32 t k)
  have Z34 : n0 ≤ h32.size := Nat.le_trans Z24 (Keep.of_wr W32).1
  have KK35 : Keep h0 h32 [a1] := KK25.wr W32 (Or.inl (List.mem_of_getElem? (i := 0) rfl))
  have N36 := Fr.snoc X32 N26 g_a1
  have Fw32 := f30.same W32
  have J37 : ∀ t, Steps p.tables e below (T32.setTop (mkF m 23 #[.val (.ref a1), .val (.ref a2), .val (.int (0 : Int32)), .val (.ref em), .val (.ref ca), .val (.ref ea), .val (.int (0 : Int32))] [(.int (0 : Int32)), (.ref a1)])) t → Steps p.tables e below (s₁.setTop (entryFrame m #[(.ref a1), (.ref a2), (.int (0 : Int32)), (.ref em), (.ref ca), (.ref ea), (.int (0 : Int32))] 7)) t := fun t k => J33 t (by
      show Steps p.tables e below (T32.setTop (mkF m 21 #[.val (.ref a1), .val (.ref a2), .val (.int (0 : Int32)), .val (.ref em), .val (.ref ca), .val (.ref ea), .val (.int (0 : Int32))] [])) _
      refine XS.aloadN X32.here hx rfl (hb hby d3_21) rfl rfl ?_
      show Steps p.tables e below (T32.setTop (mkF m 22 #[.val (.ref a1), .val (.ref a2), .val (.int (0 : Int32)), .val (.ref em), .val (.ref ca), .val (.ref ea), .val (.int (0 : Int32))] [(.ref a1)])) _
      refine XS.iloadN X32.here hx rfl (hb hby d3_22) rfl ?_
      exact k)
  have f38 := F_line_a1.ext E5
  have f39 := f38.keep K13 (ninS ne7 nin0)
  have f40 := f39.other W22 (Or.inr (slot_ne (Or.inl (hw _ (List.mem_of_getElem? (i := 42) rfl))) (Or.inr (hw _ (List.mem_of_getElem? (i := 38) rfl))) (by decide) (t := .int) (t' := (.object "com/example/capwright/capwright/csv/CsvRow$FieldText")) (by decide) (by decide)))
  have f41 := f40.other W32 (Or.inr (slot_ne (Or.inl (hw _ (List.mem_of_getElem? (i := 42) rfl))) (Or.inr (hw _ (List.mem_of_getElem? (i := 40) rfl))) (by decide) (t := .int) (t' := (.object "java/lang/String")) (by decide) (by decide)))
  have f42 := f31.wr W32
  obtain ⟨T43, h43, X43, e43, W43, st43⟩ := putF X32 hx hZ hown (host := "") (Or.inl (hw _ (List.mem_of_getElem? (i := 41) rfl))) Via.refl e32 f41 f42 (Or.inl (hw _ (List.mem_of_getElem? (i := 42) rfl))) (hw _ (List.mem_of_getElem? (i := 1) rfl)) (ty := .int) (by decide) rfl rfl (g := (mkF m 23 #[.val (.ref a1), .val (.ref a2), .val (.int (0 : Int32)), .val (.ref em), .val (.ref ca), .val (.ref ea), .val (.int (0 : Int32))] [(.int (0 : Int32)), (.ref a1)])) rfl rfl (hb hby d3_23)
  have J44 : ∀ t, Steps p.tables e below (T43.setTop (mkF m 26 #[.val (.ref a1), .val (.ref a2), .val (.int (0 : Int32)), .val (.ref em), .val (.ref ca), .val (.ref ea), .val (.int (0 : Int32))] [])) t → Steps p.tables e below (s₁.setTop (entryFrame m #[(.ref a1), (.ref a2), (.int (0 : Int32)), (.ref em), (.ref ca), (.ref ea), (.int (0 : Int32))] 7)) t := fun t k => J37 t (st43 t k)
  have Z45 : n0 ≤ h43.size := Nat.le_trans Z34 (Keep.of_wr W43).1
  have KK46 : Keep h0 h43 [a1] := KK35.wr W43 (Or.inl (List.mem_of_getElem? (i := 0) rfl))
  have N47 := Fr.snoc X43 N36 g_a1
  have Fw43 := f41.same W43
  have J48 : ∀ t, Steps p.tables e below (T43.setTop (mkF m 28 #[.val (.ref a1), .val (.ref a2), .val (.int (0 : Int32)), .val (.ref em), .val (.ref ca), .val (.ref ea), .val (.int (0 : Int32))] [(.ref em), (.ref a1)])) t → Steps p.tables e below (s₁.setTop (entryFrame m #[(.ref a1), (.ref a2), (.int (0 : Int32)), (.ref em), (.ref ca), (.ref ea), (.int (0 : Int32))] 7)) t := fun t k => J44 t (by
      show Steps p.tables e below (T43.setTop (mkF m 26 #[.val (.ref a1), .val (.ref a2), .val (.int (0 : Int32)), .val (.ref em), .val (.ref ca), .val (.ref ea), .val (.int (0 : Int32))] [])) _
      refine XS.aloadN X43.here hx rfl (hb hby d3_26) rfl rfl ?_
      show Steps p.tables e below (T43.setTop (mkF m 27 #[.val (.ref a1), .val (.ref a2), .val (.int (0 : Int32)), .val (.ref em), .val (.ref ca), .val (.ref ea), .val (.int (0 : Int32))] [(.ref a1)])) _
      refine XS.aloadN X43.here hx rfl (hb hby d3_27) rfl rfl ?_
      exact k)
  have f49 := F_columns_a1.ext E5
  have f50 := f49.keep K13 (ninS ne7 nin0)
  have f51 := f50.other W22 (Or.inr (slot_ne (Or.inl (hw _ (List.mem_of_getElem? (i := 44) rfl))) (Or.inr (hw _ (List.mem_of_getElem? (i := 38) rfl))) (by decide) (t := (.object "java/util/Map")) (t' := (.object "com/example/capwright/capwright/csv/CsvRow$FieldText")) (by decide) (by decide)))
  have f52 := f51.other W32 (Or.inr (slot_ne (Or.inl (hw _ (List.mem_of_getElem? (i := 44) rfl))) (Or.inr (hw _ (List.mem_of_getElem? (i := 40) rfl))) (by decide) (t := (.object "java/util/Map")) (t' := (.object "java/lang/String")) (by decide) (by decide)))
  have f53 := f52.other W43 (Or.inr (slot_ne (Or.inl (hw _ (List.mem_of_getElem? (i := 44) rfl))) (Or.inl (hw _ (List.mem_of_getElem? (i := 42) rfl))) (by decide) (t := (.object "java/util/Map")) (t' := .int) (by decide) (by decide)))
  have f54 := f42.wr W43
  obtain ⟨T55, h55, X55, e55, W55, st55⟩ := putF X43 hx hZ hown (host := "") (Or.inl (hw _ (List.mem_of_getElem? (i := 43) rfl))) Via.refl e43 f53 f54 (Or.inl (hw _ (List.mem_of_getElem? (i := 44) rfl))) (hw _ (List.mem_of_getElem? (i := 1) rfl)) (ty := (.object "java/util/Map")) (by decide) rfl rfl (g := (mkF m 28 #[.val (.ref a1), .val (.ref a2), .val (.int (0 : Int32)), .val (.ref em), .val (.ref ca), .val (.ref ea), .val (.int (0 : Int32))] [(.ref em), (.ref a1)])) rfl rfl (hb hby d3_28)
  have J56 : ∀ t, Steps p.tables e below (T55.setTop (mkF m 31 #[.val (.ref a1), .val (.ref a2), .val (.int (0 : Int32)), .val (.ref em), .val (.ref ca), .val (.ref ea), .val (.int (0 : Int32))] [])) t → Steps p.tables e below (s₁.setTop (entryFrame m #[(.ref a1), (.ref a2), (.int (0 : Int32)), (.ref em), (.ref ca), (.ref ea), (.int (0 : Int32))] 7)) t := fun t k => J48 t (st55 t k)
  have Z57 : n0 ≤ h55.size := Nat.le_trans Z45 (Keep.of_wr W55).1
  have KK58 : Keep h0 h55 [a1] := KK46.wr W55 (Or.inl (List.mem_of_getElem? (i := 0) rfl))
  have N59 := Fr.snoc X55 N47 g_a1
  have Fw55 := f53.same W55
  have J60 : ∀ t, Steps p.tables e below (T55.setTop (mkF m 34 #[.val (.ref a1), .val (.ref a2), .val (.int (0 : Int32)), .val (.ref em), .val (.ref ca), .val (.ref ea), .val (.int (0 : Int32))] [(.ref ca), (.ref a1)])) t → Steps p.tables e below (s₁.setTop (entryFrame m #[(.ref a1), (.ref a2), (.int (0 : Int32)), (.ref em), (.ref ca), (.ref ea), (.int (0 : Int32))] 7)) t := fun t k => J56 t (by
      show Steps p.tables e below (T55.setTop (mkF m 31 #[.val (.ref a1), .val (.ref a2), .val (.int (0 : Int32)), .val (.ref em), .val (.ref ca), .val (.ref ea), .val (.int (0 : Int32))] [])) _
      refine XS.aloadN X55.here hx rfl (hb hby d3_31) rfl rfl ?_
      show Steps p.tables e below (T55.setTop (mkF m 32 #[.val (.ref a1), .val (.ref a2), .val (.int (0 : Int32)), .val (.ref em), .val (.ref ca), .val (.ref ea), .val (.int (0 : Int32))] [(.ref a1)])) _
      refine XS.aload X55.here hx rfl (hb hby d3_32) rfl rfl ?_
      exact k)
  have f61 := F_chars_a1.ext E5
  have f62 := f61.keep K13 (ninS ne7 nin0)
  have f63 := f62.other W22 (Or.inr (slot_ne (Or.inl (hw _ (List.mem_of_getElem? (i := 46) rfl))) (Or.inr (hw _ (List.mem_of_getElem? (i := 38) rfl))) (by decide) (t := (.array .char)) (t' := (.object "com/example/capwright/capwright/csv/CsvRow$FieldText")) (by decide) (by decide)))
  have f64 := f63.other W32 (Or.inr (slot_ne (Or.inl (hw _ (List.mem_of_getElem? (i := 46) rfl))) (Or.inr (hw _ (List.mem_of_getElem? (i := 40) rfl))) (by decide) (t := (.array .char)) (t' := (.object "java/lang/String")) (by decide) (by decide)))
  have f65 := f64.other W43 (Or.inr (slot_ne (Or.inl (hw _ (List.mem_of_getElem? (i := 46) rfl))) (Or.inl (hw _ (List.mem_of_getElem? (i := 42) rfl))) (by decide) (t := (.array .char)) (t' := .int) (by decide) (by decide)))
  have f66 := f65.other W55 (Or.inr (slot_ne (Or.inl (hw _ (List.mem_of_getElem? (i := 46) rfl))) (Or.inl (hw _ (List.mem_of_getElem? (i := 44) rfl))) (by decide) (t := (.array .char)) (t' := (.object "java/util/Map")) (by decide) (by decide)))
  have f67 := f54.wr W55
  obtain ⟨T68, h68, X68, e68, W68, st68⟩ := putF X55 hx hZ hown (host := "") (Or.inl (hw _ (List.mem_of_getElem? (i := 45) rfl))) Via.refl e55 f66 f67 (Or.inl (hw _ (List.mem_of_getElem? (i := 46) rfl))) (hw _ (List.mem_of_getElem? (i := 1) rfl)) (ty := (.array .char)) (by decide) rfl rfl (g := (mkF m 34 #[.val (.ref a1), .val (.ref a2), .val (.int (0 : Int32)), .val (.ref em), .val (.ref ca), .val (.ref ea), .val (.int (0 : Int32))] [(.ref ca), (.ref a1)])) rfl rfl (hb hby d3_34)
  have J69 : ∀ t, Steps p.tables e below (T68.setTop (mkF m 37 #[.val (.ref a1), .val (.ref a2), .val (.int (0 : Int32)), .val (.ref em), .val (.ref ca), .val (.ref ea), .val (.int (0 : Int32))] [])) t → Steps p.tables e below (s₁.setTop (entryFrame m #[(.ref a1), (.ref a2), (.int (0 : Int32)), (.ref em), (.ref ca), (.ref ea), (.int (0 : Int32))] 7)) t := fun t k => J60 t (st68 t k)
  have Z70 : n0 ≤ h68.size := Nat.le_trans Z57 (Keep.of_wr W68).1
  have KK71 : Keep h0 h68 [a1] := KK58.wr W68 (Or.inl (List.mem_of_getElem? (i := 0) rfl))
  have N72 := Fr.snoc X68 N59 g_a1
  have Fw68 := f66.same W68
  have J73 : ∀ t, Steps p.tables e below (T68.setTop (mkF m 40 #[.val (.ref a1), .val (.ref a2), .val (.int (0 : Int32)), .val (.ref em), .val (.ref ca), .val (.ref ea), .val (.int (0 : Int32))] [(.ref ea), (.ref a1)])) t → Steps p.tables e below (s₁.setTop (entryFrame m #[(.ref a1), (.ref a2), (.int (0 : Int32)), (.ref em), (.ref ca), (.ref ea), (.int (0 : Int32))] 7)) t := fun t k => J69 t (by
      show Steps p.tables e below (T68.setTop (mkF m 37 #[.val (.ref a1), .val (.ref a2), .val (.int (0 : Int32)), .val (.ref em), .val (.ref ca), .val (.ref ea), .val (.int (0 : Int32))] [])) _
      refine XS.aloadN X68.here hx rfl (hb hby d3_37) rfl rfl ?_
      show Steps p.tables e below (T68.setTop (mkF m 38 #[.val (.ref a1), .val (.ref a2), .val (.int (0 : Int32)), .val (.ref em), .val (.ref ca), .val (.ref ea), .val (.int (0 : Int32))] [(.ref a1)])) _
      refine XS.aload X68.here hx rfl (hb hby d3_38) rfl rfl ?_
      exact k)
  have f74 := F_ends_a1.ext E5
  have f75 := f74.keep K13 (ninS ne7 nin0)
  have f76 := f75.other W22 (Or.inr (slot_ne (Or.inl (hw _ (List.mem_of_getElem? (i := 48) rfl))) (Or.inr (hw _ (List.mem_of_getElem? (i := 38) rfl))) (by decide) (t := (.array .int)) (t' := (.object "com/example/capwright/capwright/csv/CsvRow$FieldText")) (by decide) (by decide)))
  have f77 := f76.other W32 (Or.inr (slot_ne (Or.inl (hw _ (List.mem_of_getElem? (i := 48) rfl))) (Or.inr (hw _ (List.mem_of_getElem? (i := 40) rfl))) (by decide) (t := (.array .int)) (t' := (.object "java/lang/String")) (by decide) (by decide)))
  have f78 := f77.other W43 (Or.inr (slot_ne (Or.inl (hw _ (List.mem_of_getElem? (i := 48) rfl))) (Or.inl (hw _ (List.mem_of_getElem? (i := 42) rfl))) (by decide) (t := (.array .int)) (t' := .int) (by decide) (by decide)))
  have f79 := f78.other W55 (Or.inr (slot_ne (Or.inl (hw _ (List.mem_of_getElem? (i := 48) rfl))) (Or.inl (hw _ (List.mem_of_getElem? (i := 44) rfl))) (by decide) (t := (.array .int)) (t' := (.object "java/util/Map")) (by decide) (by decide)))
  have f80 := f79.other W68 (Or.inr (slot_ne (Or.inl (hw _ (List.mem_of_getElem? (i := 48) rfl))) (Or.inl (hw _ (List.mem_of_getElem? (i := 46) rfl))) (by decide) (t := (.array .int)) (t' := (.array .char)) (by decide) (by decide)))
  have f81 := f67.wr W68
  obtain ⟨T82, h82, X82, e82, W82, st82⟩ := putF X68 hx hZ hown (host := "") (Or.inl (hw _ (List.mem_of_getElem? (i := 47) rfl))) Via.refl e68 f80 f81 (Or.inl (hw _ (List.mem_of_getElem? (i := 48) rfl))) (hw _ (List.mem_of_getElem? (i := 1) rfl)) (ty := (.array .int)) (by decide) rfl rfl (g := (mkF m 40 #[.val (.ref a1), .val (.ref a2), .val (.int (0 : Int32)), .val (.ref em), .val (.ref ca), .val (.ref ea), .val (.int (0 : Int32))] [(.ref ea), (.ref a1)])) rfl rfl (hb hby d3_40)
  have J83 : ∀ t, Steps p.tables e below (T82.setTop (mkF m 43 #[.val (.ref a1), .val (.ref a2), .val (.int (0 : Int32)), .val (.ref em), .val (.ref ca), .val (.ref ea), .val (.int (0 : Int32))] [])) t → Steps p.tables e below (s₁.setTop (entryFrame m #[(.ref a1), (.ref a2), (.int (0 : Int32)), (.ref em), (.ref ca), (.ref ea), (.int (0 : Int32))] 7)) t := fun t k => J73 t (st82 t k)
  have Z84 : n0 ≤ h82.size := Nat.le_trans Z70 (Keep.of_wr W82).1
  have KK85 : Keep h0 h82 [a1] := KK71.wr W82 (Or.inl (List.mem_of_getElem? (i := 0) rfl))
  have N86 := Fr.snoc X82 N72 g_a1
  have Fw82 := f80.same W82
  have J87 : ∀ t, Steps p.tables e below (T82.setTop (mkF m 46 #[.val (.ref a1), .val (.ref a2), .val (.int (0 : Int32)), .val (.ref em), .val (.ref ca), .val (.ref ea), .val (.int (0 : Int32))] [(.int (0 : Int32)), (.ref a1)])) t → Steps p.tables e below (s₁.setTop (entryFrame m #[(.ref a1), (.ref a2), (.int (0 : Int32)), (.ref em), (.ref ca), (.ref ea), (.int (0 : Int32))] 7)) t := fun t k => J83 t (by
      show Steps p.tables e below (T82.setTop (mkF m 43 #[.val (.ref a1), .val (.ref a2), .val (.int (0 : Int32)), .val (.ref em), .val (.ref ca), .val (.ref ea), .val (.int (0 : Int32))] [])) _
      refine XS.aloadN X82.here hx rfl (hb hby d3_43) rfl rfl ?_
      show Steps p.tables e below (T82.setTop (mkF m 44 #[.val (.ref a1), .val (.ref a2), .val (.int (0 : Int32)), .val (.ref em), .val (.ref ca), .val (.ref ea), .val (.int (0 : Int32))] [(.ref a1)])) _
      refine XS.iload X82.here hx rfl (hb hby d3_44) rfl ?_
      exact k)
  have f88 := F_size_a1.ext E5
  have f89 := f88.keep K13 (ninS ne7 nin0)
  have f90 := f89.other W22 (Or.inr (slot_ne (Or.inl (hw _ (List.mem_of_getElem? (i := 50) rfl))) (Or.inr (hw _ (List.mem_of_getElem? (i := 38) rfl))) (by decide) (t := .int) (t' := (.object "com/example/capwright/capwright/csv/CsvRow$FieldText")) (by decide) (by decide)))
  have f91 := f90.other W32 (Or.inr (slot_ne (Or.inl (hw _ (List.mem_of_getElem? (i := 50) rfl))) (Or.inr (hw _ (List.mem_of_getElem? (i := 40) rfl))) (by decide) (t := .int) (t' := (.object "java/lang/String")) (by decide) (by decide)))
  have f92 := f91.other W43 (Or.inr (slot_ne (Or.inl (hw _ (List.mem_of_getElem? (i := 50) rfl))) (Or.inl (hw _ (List.mem_of_getElem? (i := 42) rfl))) (by decide) (t := .int) (t' := .int) (by decide) (by decide)))
  have f93 := f92.other W55 (Or.inr (slot_ne (Or.inl (hw _ (List.mem_of_getElem? (i := 50) rfl))) (Or.inl (hw _ (List.mem_of_getElem? (i := 44) rfl))) (by decide) (t := .int) (t' := (.object "java/util/Map")) (by decide) (by decide)))
  have f94 := f93.other W68 (Or.inr (slot_ne (Or.inl (hw _ (List.mem_of_getElem? (i := 50) rfl))) (Or.inl (hw _ (List.mem_of_getElem? (i := 46) rfl))) (by decide) (t := .int) (t' := (.array .char)) (by decide) (by decide)))
  have f95 := f94.other W82 (Or.inr (slot_ne (Or.inl (hw _ (List.mem_of_getElem? (i := 50) rfl))) (Or.inl (hw _ (List.mem_of_getElem? (i := 48) rfl))) (by decide) (t := .int) (t' := (.array .int)) (by decide) (by decide)))
  have f96 := f81.wr W82
  obtain ⟨T97, h97, X97, e97, W97, st97⟩ := putF X82 hx hZ hown (host := "") (Or.inl (hw _ (List.mem_of_getElem? (i := 49) rfl))) Via.refl e82 f95 f96 (Or.inl (hw _ (List.mem_of_getElem? (i := 50) rfl))) (hw _ (List.mem_of_getElem? (i := 1) rfl)) (ty := .int) (by decide) rfl rfl (g := (mkF m 46 #[.val (.ref a1), .val (.ref a2), .val (.int (0 : Int32)), .val (.ref em), .val (.ref ca), .val (.ref ea), .val (.int (0 : Int32))] [(.int (0 : Int32)), (.ref a1)])) rfl rfl (hb hby d3_46)
  have J98 : ∀ t, Steps p.tables e below (T97.setTop (mkF m 49 #[.val (.ref a1), .val (.ref a2), .val (.int (0 : Int32)), .val (.ref em), .val (.ref ca), .val (.ref ea), .val (.int (0 : Int32))] [])) t → Steps p.tables e below (s₁.setTop (entryFrame m #[(.ref a1), (.ref a2), (.int (0 : Int32)), (.ref em), (.ref ca), (.ref ea), (.int (0 : Int32))] 7)) t := fun t k => J87 t (st97 t k)
  have Z99 : n0 ≤ h97.size := Nat.le_trans Z84 (Keep.of_wr W97).1
  have KK100 : Keep h0 h97 [a1] := KK85.wr W97 (Or.inl (List.mem_of_getElem? (i := 0) rfl))
  have N101 := Fr.snoc X97 N86 g_a1
  have Fw97 := f95.same W97
  have J102 : ∀ t, Steps p.tables e below (T97.setTop (mkF m 66 #[.val (.ref a1), .val (.ref a2), .val (.int (0 : Int32)), .val (.ref em), .val (.ref ca), .val (.ref ea), .val (.int (0 : Int32))] [(.int (0 : Int32)), (.ref a1)])) t → Steps p.tables e below (s₁.setTop (entryFrame m #[(.ref a1), (.ref a2), (.int (0 : Int32)), (.ref em), (.ref ca), (.ref ea), (.int (0 : Int32))] 7)) t := fun t k => J98 t (by
      show Steps p.tables e below (T97.setTop (mkF m 49 #[.val (.ref a1), .val (.ref a2), .val (.int (0 : Int32)), .val (.ref em), .val (.ref ca), .val (.ref ea), .val (.int (0 : Int32))] [])) _
      refine XS.aloadN X97.here hx rfl (hb hby d3_49) rfl rfl ?_
      show Steps p.tables e below (T97.setTop (mkF m 50 #[.val (.ref a1), .val (.ref a2), .val (.int (0 : Int32)), .val (.ref em), .val (.ref ca), .val (.ref ea), .val (.int (0 : Int32))] [(.ref a1)])) _
      refine XS.iload X97.here hx rfl (hb hby d3_50) rfl ?_
      show Steps p.tables e below (T97.setTop (mkF m 52 #[.val (.ref a1), .val (.ref a2), .val (.int (0 : Int32)), .val (.ref em), .val (.ref ca), .val (.ref ea), .val (.int (0 : Int32))] [(.int (0 : Int32)), (.ref a1)])) _
      refine XS.ifNo X97.here hx rfl (hb hby d3_52) rfl ((if0 _ _).trans (teq (by decide)).2) ?_
      show Steps p.tables e below (T97.setTop (mkF m 55 #[.val (.ref a1), .val (.ref a2), .val (.int (0 : Int32)), .val (.ref em), .val (.ref ca), .val (.ref ea), .val (.int (0 : Int32))] [(.ref a1)])) _
      refine XS.iconst X97.here hx rfl (hb hby d3_55) ?_
      show Steps p.tables e below (T97.setTop (mkF m 56 #[.val (.ref a1), .val (.ref a2), .val (.int (0 : Int32)), .val (.ref em), .val (.ref ca), .val (.ref ea), .val (.int (0 : Int32))] [(.int (0 : Int32)), (.ref a1)])) _
      refine XS.goto X97.here hx rfl (pc0 := 56) (pc' := 66) rfl (hb hby d3_56) (by decide) (by decide) ?_
      exact k)
  have f103 := F_length_a1.ext E5
  have f104 := f103.keep K13 (ninS ne7 nin0)
  have f105 := f104.other W22 (Or.inr (slot_ne (Or.inl (hw _ (List.mem_of_getElem? (i := 52) rfl))) (Or.inr (hw _ (List.mem_of_getElem? (i := 38) rfl))) (by decide) (t := .int) (t' := (.object "com/example/capwright/capwright/csv/CsvRow$FieldText")) (by decide) (by decide)))
  have f106 := f105.other W32 (Or.inr (slot_ne (Or.inl (hw _ (List.mem_of_getElem? (i := 52) rfl))) (Or.inr (hw _ (List.mem_of_getElem? (i := 40) rfl))) (by decide) (t := .int) (t' := (.object "java/lang/String")) (by decide) (by decide)))
  have f107 := f106.other W43 (Or.inr (slot_ne (Or.inl (hw _ (List.mem_of_getElem? (i := 52) rfl))) (Or.inl (hw _ (List.mem_of_getElem? (i := 42) rfl))) (by decide) (t := .int) (t' := .int) (by decide) (by decide)))
  have f108 := f107.other W55 (Or.inr (slot_ne (Or.inl (hw _ (List.mem_of_getElem? (i := 52) rfl))) (Or.inl (hw _ (List.mem_of_getElem? (i := 44) rfl))) (by decide) (t := .int) (t' := (.object "java/util/Map")) (by decide) (by decide)))
  have f109 := f108.other W68 (Or.inr (slot_ne (Or.inl (hw _ (List.mem_of_getElem? (i := 52) rfl))) (Or.inl (hw _ (List.mem_of_getElem? (i := 46) rfl))) (by decide) (t := .int) (t' := (.array .char)) (by decide) (by decide)))
  have f110 := f109.other W82 (Or.inr (slot_ne (Or.inl (hw _ (List.mem_of_getElem? (i := 52) rfl))) (Or.inl (hw _ (List.mem_of_getElem? (i := 48) rfl))) (by decide) (t := .int) (t' := (.array .int)) (by decide) (by decide)))
  have f111 := f110.other W97 (Or.inr (slot_ne (Or.inl (hw _ (List.mem_of_getElem? (i := 52) rfl))) (Or.inl (hw _ (List.mem_of_getElem? (i := 50) rfl))) (by decide) (t := .int) (t' := .int) (by decide) (by decide)))
  have f112 := f96.wr W97
  obtain ⟨T113, h113, X113, e113, W113, st113⟩ := putF X97 hx hZ hown (host := "") (Or.inl (hw _ (List.mem_of_getElem? (i := 51) rfl))) Via.refl e97 f111 f112 (Or.inl (hw _ (List.mem_of_getElem? (i := 52) rfl))) (hw _ (List.mem_of_getElem? (i := 1) rfl)) (ty := .int) (by decide) rfl rfl (g := (mkF m 66 #[.val (.ref a1), .val (.ref a2), .val (.int (0 : Int32)), .val (.ref em), .val (.ref ca), .val (.ref ea), .val (.int (0 : Int32))] [(.int (0 : Int32)), (.ref a1)])) rfl rfl (hb hby d3_66)
  have J114 : ∀ t, Steps p.tables e below (T113.setTop (mkF m 69 #[.val (.ref a1), .val (.ref a2), .val (.int (0 : Int32)), .val (.ref em), .val (.ref ca), .val (.ref ea), .val (.int (0 : Int32))] [])) t → Steps p.tables e below (s₁.setTop (entryFrame m #[(.ref a1), (.ref a2), (.int (0 : Int32)), (.ref em), (.ref ca), (.ref ea), (.int (0 : Int32))] 7)) t := fun t k => J102 t (st113 t k)
  have Z115 : n0 ≤ h113.size := Nat.le_trans Z99 (Keep.of_wr W113).1
  have KK116 : Keep h0 h113 [a1] := KK100.wr W113 (Or.inl (List.mem_of_getElem? (i := 0) rfl))
  have N117 := Fr.snoc X113 N101 g_a1
  have Fw113 := f111.same W113
  obtain ⟨fs, hr, hrun, hended, hW, hsame⟩ := X113.leave (v := none) (fun _ => rfl)
  have f118 := f112.wr W113
  have f119 := Fw43.other W55 (Or.inr (slot_ne (Or.inl (hw _ (List.mem_of_getElem? (i := 42) rfl))) (Or.inl (hw _ (List.mem_of_getElem? (i := 44) rfl))) (by decide) (t := .int) (t' := (.object "java/util/Map")) (by decide) (by decide)))
  have f120 := f119.other W68 (Or.inr (slot_ne (Or.inl (hw _ (List.mem_of_getElem? (i := 42) rfl))) (Or.inl (hw _ (List.mem_of_getElem? (i := 46) rfl))) (by decide) (t := .int) (t' := (.array .char)) (by decide) (by decide)))
  have f121 := f120.other W82 (Or.inr (slot_ne (Or.inl (hw _ (List.mem_of_getElem? (i := 42) rfl))) (Or.inl (hw _ (List.mem_of_getElem? (i := 48) rfl))) (by decide) (t := .int) (t' := (.array .int)) (by decide) (by decide)))
  have f122 := f121.other W97 (Or.inr (slot_ne (Or.inl (hw _ (List.mem_of_getElem? (i := 42) rfl))) (Or.inl (hw _ (List.mem_of_getElem? (i := 50) rfl))) (by decide) (t := .int) (t' := .int) (by decide) (by decide)))
  have f123 := f122.other W113 (Or.inr (slot_ne (Or.inl (hw _ (List.mem_of_getElem? (i := 42) rfl))) (Or.inl (hw _ (List.mem_of_getElem? (i := 52) rfl))) (by decide) (t := .int) (t' := .int) (by decide) (by decide)))
  have f124 := Fw68.other W82 (Or.inr (slot_ne (Or.inl (hw _ (List.mem_of_getElem? (i := 46) rfl))) (Or.inl (hw _ (List.mem_of_getElem? (i := 48) rfl))) (by decide) (t := (.array .char)) (t' := (.array .int)) (by decide) (by decide)))
  have f125 := f124.other W97 (Or.inr (slot_ne (Or.inl (hw _ (List.mem_of_getElem? (i := 46) rfl))) (Or.inl (hw _ (List.mem_of_getElem? (i := 50) rfl))) (by decide) (t := (.array .char)) (t' := .int) (by decide) (by decide)))
  have f126 := f125.other W113 (Or.inr (slot_ne (Or.inl (hw _ (List.mem_of_getElem? (i := 46) rfl))) (Or.inl (hw _ (List.mem_of_getElem? (i := 52) rfl))) (by decide) (t := (.array .char)) (t' := .int) (by decide) (by decide)))
  have f127 := Fw82.other W97 (Or.inr (slot_ne (Or.inl (hw _ (List.mem_of_getElem? (i := 48) rfl))) (Or.inl (hw _ (List.mem_of_getElem? (i := 50) rfl))) (by decide) (t := (.array .int)) (t' := .int) (by decide) (by decide)))
  have f128 := f127.other W113 (Or.inr (slot_ne (Or.inl (hw _ (List.mem_of_getElem? (i := 48) rfl))) (Or.inl (hw _ (List.mem_of_getElem? (i := 52) rfl))) (by decide) (t := (.array .int)) (t' := .int) (by decide) (by decide)))
  have f129 := Fw97.other W113 (Or.inr (slot_ne (Or.inl (hw _ (List.mem_of_getElem? (i := 50) rfl))) (Or.inl (hw _ (List.mem_of_getElem? (i := 52) rfl))) (by decide) (t := .int) (t' := .int) (by decide) (by decide)))
  refine ⟨_, _, J114 _ ?_, hrun, hended, _, _, rfl, ?_, ⟨_, rfl⟩, hW, hsame.mono (by decide) (by decide)⟩
  · show Steps p.tables e below (T113.setTop (mkF m 69 #[.val (.ref a1), .val (.ref a2), .val (.int (0 : Int32)), .val (.ref em), .val (.ref ca), .val (.ref ea), .val (.int (0 : Int32))] [])) _
    exact X113.returnOut hx Bd.returns (hb hby d3_69) hr
  · show Q3 Z a1 a2 em ca ea u0 u1 u2 u3 u4 u5 u6 u7 h0 n0 _ T113.heap _
    rw [e113]
    exact ⟨rfl, N117, KK116, f118, f123, f126, f128, f129, Fw113⟩
theorem d1_0 : decode prog_18_method_1_code 0 = .ok (.aload_n 0, 1) := by decide +kernel
theorem d1_1 : decode prog_18_method_1_code 1 = .ok (.aload_n 1, 1) := by decide +kernel
theorem d1_2 : decode prog_18_method_1_code 2 = .ok (.iconst 0, 1) := by decide +kernel
theorem d1_3 : decode prog_18_method_1_code 3 = .ok (.invokestatic 1, 3) := by decide +kernel
theorem pd_1 : parseMethodDescriptor "()Ljava/util/Map;" = some ⟨[], some (.object "java/util/Map")⟩ := by decide +kernel
theorem d1_6 : decode prog_18_method_1_code 6 = .ok (.sipush 256, 3) := by decide +kernel
theorem d1_9 : decode prog_18_method_1_code 9 = .ok (.newarray .char, 2) := by decide +kernel
theorem d1_11 : decode prog_18_method_1_code 11 = .ok (.bipush 16, 2) := by decide +kernel
theorem d1_13 : decode prog_18_method_1_code 13 = .ok (.newarray .int, 2) := by decide +kernel
theorem d1_15 : decode prog_18_method_1_code 15 = .ok (.iconst 0, 1) := by decide +kernel
theorem d1_16 : decode prog_18_method_1_code 16 = .ok (.invokespecial 9, 3) := by decide +kernel
theorem pd_2 : parseMethodDescriptor "(Ljava/lang/String;ILjava/util/Map;[C[II)V" = some ⟨[(.object "java/lang/String"), .int, (.object "java/util/Map"), (.array .char), (.array .int), .int], none⟩ := by decide +kernel
theorem d1_19 : decode prog_18_method_1_code 19 = .ok (.return_, 1) := by decide +kernel
theorem pn_1 : plainName "com/example/capwright/capwright/csv/CsvRow" = true := by first | (simp [plainName, overriddenIn]; done) | decide +kernel
theorem ef_1_xx (m : MethodId) (x0 : Addr) (x1 : Addr) : entryFrame m #[(.ref x0), (.ref x1)] 2 = mkF m 0 #[.val (.ref x0), .val (.ref x1)] [] := by first | (simp [entryFrame, mkF, argsToLocals, Value.category]; done) | rfl
def Q1 (Z : State) (a1 : Addr) (a2 : Addr) (em : Addr) (u0 : Value) (u1 : Value) (u2 : Value) (u3 : Value) (u4 : Value) (u5 : Value) (u6 : Value) (u7 : Value) (h0 : Heap) (n0 : Nat) (v : Option Value) (h : Heap) (L : List Loc) : Prop := ∃ (ca : Addr) (ea : Addr) (kc : ClassId) (vd : List Value) (ecl : Cell), v = none ∧ Fr n0 L ∧ Keep h0 h [a1] ∧ (Exa Z h a1 "com/example/capwright/capwright/csv/CsvRow") ∧ (Fld Z h a1 "com/example/capwright/capwright/csv/CsvRow" "line" "I" (.int (0 : Int32))) ∧ (Fld Z h a1 "com/example/capwright/capwright/csv/CsvRow" "chars" "[C" (.ref ca)) ∧ (Fld Z h a1 "com/example/capwright/capwright/csv/CsvRow" "ends" "[I" (.ref ea)) ∧ (Fld Z h a1 "com/example/capwright/capwright/csv/CsvRow" "size" "I" (.int (0 : Int32))) ∧ (Fld Z h a1 "com/example/capwright/capwright/csv/CsvRow" "length" "I" (.int (0 : Int32))) ∧ (Arv Z h ca kc .char (256 : Int32) vd (.int 0)) ∧ (n0 ≤ ca) ∧ (Arr Z h ea ecl .int) ∧ (n0 ≤ ea) ∧ (256 ≤ vd.length) ∧ (ecl.slots.size = 16) ∧ (a1 ≠ ca) ∧ (a1 ≠ ea) ∧ (ca ≠ ea)
set_option maxRecDepth 65536 in
set_option maxHeartbeats 40000000 in
theorem rm1 (l : Launch) (Z : State) (a0 : Array Value) (hw : ∀ d ∈ tables_1, d.before a0 Z = true) (ws : List Jvm.Cond) (a1 : Addr) (a2 : Addr) (em : Addr) (u0 : Value) (u1 : Value) (u2 : Value) (u3 : Value) (u4 : Value) (u5 : Value) (u6 : Value) (u7 : Value) (h0 : Heap) (n0 : Nat) (Z0 : n0 ≤ h0.size) (E_a1 : Exa Z h0 a1 "com/example/capwright/capwright/csv/CsvRow") (g_a1 : n0 ≤ a1) (O : Old Z n0 h0) (Zs_EMPTY_MAP : Sta Z Z.heap "java/util/ImmutableCollections" "EMPTY_MAP" "Ljava/util/ImmutableCollections$MapN;" (.ref em)) (F_fieldText_a1 : Fld Z h0 a1 "com/example/capwright/capwright/csv/CsvRow" "fieldText" "Lcom/example/capwright/capwright/csv/CsvRow$FieldText;" u0) (F_file_a1 : Fld Z h0 a1 "com/example/capwright/capwright/csv/CsvRow" "file" "Ljava/lang/String;" u1) (F_line_a1 : Fld Z h0 a1 "com/example/capwright/capwright/csv/CsvRow" "line" "I" u2) (F_columns_a1 : Fld Z h0 a1 "com/example/capwright/capwright/csv/CsvRow" "columns" "Ljava/util/Map;" u3) (F_chars_a1 : Fld Z h0 a1 "com/example/capwright/capwright/csv/CsvRow" "chars" "[C" u4) (F_ends_a1 : Fld Z h0 a1 "com/example/capwright/capwright/csv/CsvRow" "ends" "[I" u5) (F_size_a1 : Fld Z h0 a1 "com/example/capwright/capwright/csv/CsvRow" "size" "I" u6) (F_length_a1 : Fld Z h0 a1 "com/example/capwright/capwright/csv/CsvRow" "length" "I" u7) :
    MetFree l (⟨"com/example/capwright/capwright/csv/CsvRow", "<init>", "(Ljava/lang/String;)V"⟩ : MethodName) (head1 (Jvm.Cond.code (⟨"com/example/capwright/capwright/csv/CsvRow", "<init>", "(Ljava/lang/String;)V"⟩ : MethodName) prog_18_method_1_code 2 none :: ws) ({ frames := 3, cells := 3, slots := 275, locals := 45 } : Room)) (fun a U => a = #[(.ref a1), (.ref a2)] ∧ Z.Warmed39 U.vm ∧ U.heap = h0) (fun _ _ _ _ _ => True) (fun _ U o U' => ∃ v L, o = .returned v ∧ Q1 Z a1 a2 em u0 u1 u2 u3 u4 u5 u6 u7 h0 n0 v U'.heap L ∧ FrameEnd U o U' L ({ frames := 3, cells := 3, slots := 275, locals := 45 } : Room).cells ({ frames := 3, cells := 3, slots := 275, locals := 45 } : Room).slots) := by
  refine MetFree.of_bodySF (plainFor_of_name pn_1) hisR ?_
  intro p e s m args below meth c s₁ Bd hml0 hP hK
  obtain ⟨rfl, hZ, hh⟩ := hP
  have hx := Bd.exec
  have hby := Bd.bytes
  have hml : c.maxLocals = 2 := hml0
  have hown : s.vm.findClass "com/example/capwright/capwright/csv/CsvRow" = some m.cls := findClass_of_methodNamed Bd.named
  have hnm := (name_of_methodNamed Bd.named Bd.method).1
  have X0 : Stand p l e ({ frames := 3, cells := 3, slots := 275, locals := 45 } : Room) s m #[(.ref a1), (.ref a2)] below meth c s₁ [] 0 0 := Stand.of_body Bd
  have e0 : s₁.heap = h0 := by rw [← hh, Bd.state]; rfl
  have N0 := Fr.nil n0
  have pre0 : ∀ t, Steps p.tables e below (s₁.setTop (mkF m 0 #[.val (.ref a1), .val (.ref a2)] [])) t → Steps p.tables e below (s₁.setTop (entryFrame m #[(.ref a1), (.ref a2)] 2)) t := fun t k => castTop (ef_1_xx m a1 a2) k
  have J1 : ∀ t, Steps p.tables e below (s₁.setTop (mkF m 3 #[.val (.ref a1), .val (.ref a2)] [(.int (0 : Int32)), (.ref a2), (.ref a1)])) t → Steps p.tables e below (s₁.setTop (entryFrame m #[(.ref a1), (.ref a2)] 2)) t := fun t k => pre0 t (by
      show Steps p.tables e below (s₁.setTop (mkF m 0 #[.val (.ref a1), .val (.ref a2)] [])) _
      refine XS.aloadN X0.here hx rfl (hb hby d1_0) rfl rfl ?_
      show Steps p.tables e below (s₁.setTop (mkF m 1 #[.val (.ref a1), .val (.ref a2)] [(.ref a1)])) _
      refine XS.aloadN X0.here hx rfl (hb hby d1_1) rfl rfl ?_
      show Steps p.tables e below (s₁.setTop (mkF m 2 #[.val (.ref a1), .val (.ref a2)] [(.ref a2), (.ref a1)])) _
      refine XS.iconst X0.here hx rfl (hb hby d1_2) ?_
      exact k)
  obtain ⟨_, _, ⟨T2, L2, k2, n2⟩, -, X2, ⟨Lc2, hQ2, l2, y2, z2⟩, st2⟩ := Jvm.LawKit.callS X0 hx (y := (⟨"java/util/Map", "of", "()Ljava/util/Map;"⟩ : MethodName)) hown (mvT hZ (hw _ (List.mem_of_getElem? (i := 14) rfl))) (mvT hZ (hw _ (List.mem_of_getElem? (i := 15) rfl))) (mvT hZ (hw _ (List.mem_of_getElem? (i := 16) rfl))) (mvT hZ (hw _ (List.mem_of_getElem? (i := 17) rfl))) (by decide) (backOf (W := 3) (rm2 l Z a0 hw [] em h0 n0 Z0 O Zs_EMPTY_MAP) hZ (hw _ (List.mem_of_getElem? (i := 17) rfl)) (hw _ (List.mem_of_getElem? (i := 16) rfl)) (by decide) (by decide)) (g := (mkF m 3 #[.val (.ref a1), .val (.ref a2)] [(.int (0 : Int32)), (.ref a2), (.ref a1)])) rfl (by rw [hml]; rfl) (argsL := []) (rest := [(.int (0 : Int32)), (.ref a2), (.ref a1)]) (lenOf pd_1 rfl) rfl (by show 2 * 0 + _ ≤ _; exact Nat.le_of_eq rfl) (hb hby d1_3) (fun _ _ => ⟨rfl, e0, (by decide : 0 + 0 ≤ _), (by decide : 0 + 0 ≤ _)⟩)
  dsimp only [Pt.U, Pt.locs, Pt.cells, Pt.slots] at X2 l2 y2 z2 st2 hQ2
  subst y2 z2
  obtain ⟨rfl, Nq2, e2⟩ := hQ2
  have N3 : Fr n0 L2 := by rw [l2]; exact Fr.app N0 Nq2
  have J4 : ∀ t, Steps p.tables e below (T2.setTop (mkF m 6 #[.val (.ref a1), .val (.ref a2)] [(.ref em), (.int (0 : Int32)), (.ref a2), (.ref a1)])) t → Steps p.tables e below (s₁.setTop (entryFrame m #[(.ref a1), (.ref a2)] 2)) t := fun t k => J1 t (st2 t k)
  have J5 : ∀ t, Steps p.tables e below (T2.setTop (mkF m 9 #[.val (.ref a1), .val (.ref a2)] [(.int (256 : Int32)), (.ref em), (.int (0 : Int32)), (.ref a2), (.ref a1)])) t → Steps p.tables e below (s₁.setTop (entryFrame m #[(.ref a1), (.ref a2)] 2)) t := fun t k => J4 t (by
      show Steps p.tables e below (T2.setTop (mkF m 6 #[.val (.ref a1), .val (.ref a2)] [(.ref em), (.int (0 : Int32)), (.ref a2), (.ref a1)])) _
      refine XS.sipush X2.here hx rfl (hb hby d1_6) ?_
      exact k)
  obtain ⟨T6, h6, k6, X6, e6, E6, A6, st6⟩ := newP X2 hx hZ (hw _ (List.mem_of_getElem? (i := 20) rfl)) e2 (g := (mkF m 9 #[.val (.ref a1), .val (.ref a2)] [(.int (256 : Int32)), (.ref em), (.int (0 : Int32)), (.ref a2), (.ref a1)])) rfl (hb hby d1_9) rfl (by decide) (cap := 256) (by decide) (by decide) (by decide) (by decide)
  obtain ⟨b6, g6⟩ : ∃ z, z = h0.size := ⟨_, rfl⟩
  rw [← g6] at A6 st6
  obtain ⟨cl6, hcl6⟩ : ∃ z, z = newA k6 .char (256 : Int32) := ⟨_, rfl⟩
  have Aw6 : Arr Z h6 b6 cl6 .char := by rw [hcl6]; exact A6
  have J7 : ∀ t, Steps p.tables e below (T6.setTop (mkF m 11 #[.val (.ref a1), .val (.ref a2)] [(.ref b6), (.ref em), (.int (0 : Int32)), (.ref a2), (.ref a1)])) t → Steps p.tables e below (s₁.setTop (entryFrame m #[(.ref a1), (.ref a2)] 2)) t := fun t k => J5 t (st6 t k)
  have ne8 : a1 ≠ b6 := Nat.ne_of_lt (Nat.lt_of_lt_of_le E_a1.lt (Nat.le_of_eq g6.symm))
  have ge9 : n0 ≤ b6 := Nat.le_trans Z0 (Nat.le_of_eq g6.symm)
  have sz10 : h0.size ≤ b6 := Nat.le_trans (Keep.refl h0 [a1]).1 (Nat.le_of_eq g6.symm)
  have Z11 : n0 ≤ h6.size := Nat.le_trans Z0 E6.1
  have KK12 : Keep h0 h6 [a1] := (Keep.refl h0 [a1]).ext E6
  have hS6 : cl6.slots.size = (256 : Int32).toNatClampNeg := by rw [hcl6, sz_new]
  have Av6 : Arv Z h6 b6 cl6.cls .char (256 : Int32) cl6.slots.toList (.int 0) := own_arv Aw6 hS6 (by decide) (own_G_new hcl6)
  have J13 : ∀ t, Steps p.tables e below (T6.setTop (mkF m 13 #[.val (.ref a1), .val (.ref a2)] [(.int (16 : Int32)), (.ref b6), (.ref em), (.int (0 : Int32)), (.ref a2), (.ref a1)])) t → Steps p.tables e below (s₁.setTop (entryFrame m #[(.ref a1), (.ref a2)] 2)) t := fun t k => J7 t (by
      show Steps p.tables e below (T6.setTop (mkF m 11 #[.val (.ref a1), .val (.ref a2)] [(.ref b6), (.ref em), (.int (0 : Int32)), (.ref a2), (.ref a1)])) _
      refine XS.bipush X6.here hx rfl (hb hby d1_11) ?_
      exact k)
  have f15 := E_a1.ext E6
  obtain ⟨T14, h14, k14, X14, e14, E14, A14, st14⟩ := newP X6 hx hZ (hw _ (List.mem_of_getElem? (i := 21) rfl)) e6 (g := (mkF m 13 #[.val (.ref a1), .val (.ref a2)] [(.int (16 : Int32)), (.ref b6), (.ref em), (.int (0 : Int32)), (.ref a2), (.ref a1)])) rfl (hb hby d1_13) rfl (by decide) (cap := 16) (by decide) (by decide) (by decide) (by decide)
  obtain ⟨b14, g14⟩ : ∃ z, z = h6.size := ⟨_, rfl⟩
  rw [← g14] at A14 st14
  obtain ⟨cl14, hcl14⟩ : ∃ z, z = newA k14 .int (16 : Int32) := ⟨_, rfl⟩
  have Aw14 : Arr Z h14 b14 cl14 .int := by rw [hcl14]; exact A14
  have J16 : ∀ t, Steps p.tables e below (T14.setTop (mkF m 15 #[.val (.ref a1), .val (.ref a2)] [(.ref b14), (.ref b6), (.ref em), (.int (0 : Int32)), (.ref a2), (.ref a1)])) t → Steps p.tables e below (s₁.setTop (entryFrame m #[(.ref a1), (.ref a2)] 2)) t := fun t k => J13 t (st14 t k)
  have ne17 : a1 ≠ b14 := Nat.ne_of_lt (Nat.lt_of_lt_of_le f15.lt (Nat.le_of_eq g14.symm))
  have ne18 : b6 ≠ b14 := Nat.ne_of_lt (Nat.lt_of_lt_of_le Av6.lt (Nat.le_of_eq g14.symm))
  have ge19 : n0 ≤ b14 := Nat.le_trans Z11 (Nat.le_of_eq g14.symm)
  have sz20 : h0.size ≤ b14 := Nat.le_trans KK12.1 (Nat.le_of_eq g14.symm)
  have Z21 : n0 ≤ h14.size := Nat.le_trans Z11 E14.1
  have KK22 : Keep h0 h14 [a1] := KK12.ext E14
  have J23 : ∀ t, Steps p.tables e below (T14.setTop (mkF m 16 #[.val (.ref a1), .val (.ref a2)] [(.int (0 : Int32)), (.ref b14), (.ref b6), (.ref em), (.int (0 : Int32)), (.ref a2), (.ref a1)])) t → Steps p.tables e below (s₁.setTop (entryFrame m #[(.ref a1), (.ref a2)] 2)) t := fun t k => J16 t (by
      show Steps p.tables e below (T14.setTop (mkF m 15 #[.val (.ref a1), .val (.ref a2)] [(.ref b14), (.ref b6), (.ref em), (.int (0 : Int32)), (.ref a2), (.ref a1)])) _
      refine XS.iconst X14.here hx rfl (hb hby d1_15) ?_
      exact k)
  have f24 := f15.ext E14
  have f25 := F_fieldText_a1.ext E6
  have f26 := f25.ext E14
  have f27 := F_file_a1.ext E6
  have f28 := f27.ext E14
  have f29 := F_line_a1.ext E6
  have f30 := f29.ext E14
  have f31 := F_columns_a1.ext E6
  have f32 := f31.ext E14
  have f33 := F_chars_a1.ext E6
  have f34 := f33.ext E14
  have f35 := F_ends_a1.ext E6
  have f36 := f35.ext E14
  have f37 := F_size_a1.ext E6
  have f38 := f37.ext E14
  have f39 := F_length_a1.ext E6
  have f40 := f39.ext E14
  obtain ⟨_, _, ⟨T41, L41, k41, n41⟩, -, X41, ⟨Lc41, hQ41, l41, y41, z41⟩, st41⟩ := X14.specialBack hx (y := (⟨"com/example/capwright/capwright/csv/CsvRow", "<init>", "(Ljava/lang/String;ILjava/util/Map;[C[II)V"⟩ : MethodName)) rfl hown (mvT hZ (hw _ (List.mem_of_getElem? (i := 22) rfl))) (mvT hZ (hw _ (List.mem_of_getElem? (i := 23) rfl))) (mvT hZ (hw _ (List.mem_of_getElem? (i := 24) rfl))) (by decide) (backOf (W := 0) (rm3 l Z a0 hw [] a1 a2 em b6 b14 u0 u1 u2 u3 u4 u5 u6 u7 h14 n0 Z21 f24 g_a1 f26 f28 f30 f32 f34 f36 f38 f40) hZ (hw _ (List.mem_of_getElem? (i := 24) rfl)) (hw _ (List.mem_of_getElem? (i := 2) rfl)) (by decide) (by decide)) (g := (mkF m 16 #[.val (.ref a1), .val (.ref a2)] [(.int (0 : Int32)), (.ref b14), (.ref b6), (.ref em), (.int (0 : Int32)), (.ref a2), (.ref a1)])) rfl (by rw [hml]; rfl) (Steps.refl _) (a := a1) (argsL := [(.ref a2), (.int (0 : Int32)), (.ref em), (.ref b6), (.ref b14), (.int (0 : Int32))]) (rest := []) (lenOf pd_2 rfl) rfl (by show 2 * 0 + _ ≤ _; exact Nat.le_of_eq rfl) (hb hby d1_16) (fun _ _ => ⟨rfl, e14, (by decide : 2 + 1 ≤ _), (by decide : 272 + 3 ≤ _)⟩)
  dsimp only [Pt.U, Pt.locs, Pt.cells, Pt.slots] at X41 l41 y41 z41 st41 hQ41
  subst y41 z41
  obtain ⟨rfl, Nq41, K41, p41_1, p41_2, p41_3, p41_4, p41_5, p41_6⟩ := hQ41
  have N42 : Fr n0 L41 := by rw [l41]; exact Fr.app N3 Nq41
  have J43 : ∀ t, Steps p.tables e below (T41.setTop (mkF m 19 #[.val (.ref a1), .val (.ref a2)] [])) t → Steps p.tables e below (s₁.setTop (entryFrame m #[(.ref a1), (.ref a2)] 2)) t := fun t k => J23 t (st41.trans k)
  have Z44 : n0 ≤ T41.heap.size := Nat.le_trans Z21 K41.1
  have KK45 : Keep h0 T41.heap [a1] := KK22.trans K41 (allS (Or.inl (List.mem_of_getElem? (i := 0) rfl)) all0)
  obtain ⟨fs, hr, hrun, hended, hW, hsame⟩ := X41.leave (v := none) (fun _ => rfl)
  have f46 := Av6.ext E14
  have f47 := f46.keep K41 (ninS (Ne.symm ne8) nin0)
  have f48 : Arr Z T41.heap b14 cl14 .int := ⟨K41.2.1 _ _ Aw14.1 (ninS (Ne.symm ne17) nin0), Aw14.2⟩
  refine ⟨_, _, J43 _ ?_, hrun, hended, _, _, rfl, ?_, ⟨_, rfl⟩, hW, hsame.mono (by decide) (by decide)⟩
  · show Steps p.tables e below (T41.setTop (mkF m 19 #[.val (.ref a1), .val (.ref a2)] [])) _
    exact X41.returnOut hx Bd.returns (hb hby d1_19) hr
  · show Q1 Z a1 a2 em u0 u1 u2 u3 u4 u5 u6 u7 h0 n0 _ T41.heap _
    exact ⟨b6, b14, cl6.cls, cl6.slots.toList, cl14, rfl, N42, KK45, p41_1, p41_2, p41_3, p41_4, p41_5, p41_6, f47, ge9, f48, ge19, (by rw [Array.length_toList, hS6]; decide), (by rw [hcl14, sz_new]; decide), ne8, ne17, ne18⟩
theorem d6_0 : decode prog_18_method_4_code 0 = .ok (.iload_n 3, 1) := by decide +kernel
theorem d6_1 : decode prog_18_method_4_code 1 = .ok (.iload_n 2, 1) := by decide +kernel
theorem d6_2 : decode prog_18_method_4_code 2 = .ok (.isub, 1) := by decide +kernel
theorem d6_3 : decode prog_18_method_4_code 3 = .ok (.istore 4, 2) := by decide +kernel
theorem d6_5 : decode prog_18_method_4_code 5 = .ok (.aload_n 0, 1) := by decide +kernel
theorem d6_6 : decode prog_18_method_4_code 6 = .ok (.getfield 50, 3) := by decide +kernel
theorem d6_9 : decode prog_18_method_4_code 9 = .ok (.iload 4, 2) := by decide +kernel
theorem d6_11 : decode prog_18_method_4_code 11 = .ok (.iadd, 1) := by decide +kernel
theorem d6_12 : decode prog_18_method_4_code 12 = .ok (.aload_n 0, 1) := by decide +kernel
theorem d6_13 : decode prog_18_method_4_code 13 = .ok (.getfield 39, 3) := by decide +kernel
theorem d6_16 : decode prog_18_method_4_code 16 = .ok (.arraylength, 1) := by decide +kernel
theorem d6_17 : decode prog_18_method_4_code 17 = .ok (.if_icmp .le 31, 3) := by decide +kernel
theorem d6_48 : decode prog_18_method_4_code 48 = .ok (.aload_n 1, 1) := by decide +kernel
theorem d6_49 : decode prog_18_method_4_code 49 = .ok (.iload_n 2, 1) := by decide +kernel
theorem d6_50 : decode prog_18_method_4_code 50 = .ok (.aload_n 0, 1) := by decide +kernel
theorem d6_51 : decode prog_18_method_4_code 51 = .ok (.getfield 39, 3) := by decide +kernel
theorem d6_54 : decode prog_18_method_4_code 54 = .ok (.aload_n 0, 1) := by decide +kernel
theorem d6_55 : decode prog_18_method_4_code 55 = .ok (.getfield 50, 3) := by decide +kernel
theorem d6_58 : decode prog_18_method_4_code 58 = .ok (.iload 4, 2) := by decide +kernel
theorem d6_60 : decode prog_18_method_4_code 60 = .ok (.invokestatic 65, 3) := by decide +kernel
theorem d6_63 : decode prog_18_method_4_code 63 = .ok (.aload_n 0, 1) := by decide +kernel
theorem d6_64 : decode prog_18_method_4_code 64 = .ok (.dup, 1) := by decide +kernel
theorem d6_65 : decode prog_18_method_4_code 65 = .ok (.getfield 50, 3) := by decide +kernel
theorem d6_68 : decode prog_18_method_4_code 68 = .ok (.iload 4, 2) := by decide +kernel
theorem d6_70 : decode prog_18_method_4_code 70 = .ok (.iadd, 1) := by decide +kernel
theorem d6_71 : decode prog_18_method_4_code 71 = .ok (.putfield 50, 3) := by decide +kernel
theorem d6_74 : decode prog_18_method_4_code 74 = .ok (.return_, 1) := by decide +kernel
theorem pn_6 : plainName "com/example/capwright/capwright/csv/CsvRow" = true := by first | (simp [plainName, overriddenIn]; done) | decide +kernel
theorem ef_6_xxxx (m : MethodId) (x0 : Addr) (x1 : Addr) (x2 : Int32) (x3 : Int32) : entryFrame m #[(.ref x0), (.ref x1), (.int x2), (.int x3)] 5 = mkF m 0 #[.val (.ref x0), .val (.ref x1), .val (.int x2), .val (.int x3), .unset] [] := by first | (simp [entryFrame, mkF, argsToLocals, Value.category]; done) | rfl
def Q6 (Z : State) (a1 : Addr) (sa : Addr) (ca : Addr) (p3 : Int32) (ks : ClassId) (z : Int32) (vs : List Value) (kc : ClassId) (vd : List Value) (ul : Value) (ue : Value) (uz : Value) (h0 : Heap) (n0 : Nat) (v : Option Value) (h : Heap) (L : List Loc) : Prop := ∃ (vd' : List Value), v = none ∧ Fr n0 L ∧ Keep h0 h [a1, ca] ∧ (Exa Z h a1 "com/example/capwright/capwright/csv/CsvRow") ∧ (Fld Z h a1 "com/example/capwright/capwright/csv/CsvRow" "chars" "[C" (.ref ca)) ∧ (Fld Z h a1 "com/example/capwright/capwright/csv/CsvRow" "line" "I" ul) ∧ (Fld Z h a1 "com/example/capwright/capwright/csv/CsvRow" "ends" "[I" ue) ∧ (Fld Z h a1 "com/example/capwright/capwright/csv/CsvRow" "size" "I" uz) ∧ (Fld Z h a1 "com/example/capwright/capwright/csv/CsvRow" "length" "I" (.int p3)) ∧ (Arv Z h ca kc .char (256 : Int32) vd' (.int 0)) ∧ (256 ≤ vd'.length) ∧ (p3 = (1 : Int32) → vd'.getD 0 (.int 0) = vs.getD 0 (.int 0))
set_option maxRecDepth 65536 in
set_option maxHeartbeats 40000000 in
theorem rm6 (l : Launch) (Z : State) (a0 : Array Value) (hw : ∀ d ∈ tables_1, d.before a0 Z = true) (ws : List Jvm.Cond) (a1 : Addr) (sa : Addr) (ca : Addr) (p3 : Int32) (ks : ClassId) (z : Int32) (vs : List Value) (kc : ClassId) (vd : List Value) (ul : Value) (ue : Value) (uz : Value) (h0 : Heap) (n0 : Nat) (Z0 : n0 ≤ h0.size) (E_a1 : Exa Z h0 a1 "com/example/capwright/capwright/csv/CsvRow") (g_a1 : n0 ≤ a1) (g_ca : n0 ≤ ca) (F_chars_a1 : Fld Z h0 a1 "com/example/capwright/capwright/csv/CsvRow" "chars" "[C" (.ref ca)) (F_length_a1 : Fld Z h0 a1 "com/example/capwright/capwright/csv/CsvRow" "length" "I" (.int (0 : Int32))) (Av_sa : Arv Z h0 sa ks .char z vs (.int 0)) (Av_ca : Arv Z h0 ca kc .char (256 : Int32) vd (.int 0)) (hp0 : ¬ p3 < 0) (hp1 : ¬ (256 : Int32) < p3) (hp2 : p3.toNatClampNeg ≤ z.toNatClampNeg) (hp3 : p3.toNatClampNeg ≤ 256) (hvd : 256 ≤ vd.length) (ne_a1_ca : a1 ≠ ca) (ne_sa_ca : sa ≠ ca) (ne_a1_sa : a1 ≠ sa) (F_line_a1 : Fld Z h0 a1 "com/example/capwright/capwright/csv/CsvRow" "line" "I" ul) (F_ends_a1 : Fld Z h0 a1 "com/example/capwright/capwright/csv/CsvRow" "ends" "[I" ue) (F_size_a1 : Fld Z h0 a1 "com/example/capwright/capwright/csv/CsvRow" "size" "I" uz) :
    MetFree l (⟨"com/example/capwright/capwright/csv/CsvRow", "append", "([CII)V"⟩ : MethodName) (head1 (Jvm.Cond.code (⟨"com/example/capwright/capwright/csv/CsvRow", "append", "([CII)V"⟩ : MethodName) prog_18_method_4_code 5 none :: ws) ({ frames := 1, cells := 0, slots := 0, locals := 18 } : Room)) (fun a U => a = #[(.ref a1), (.ref sa), (.int (0 : Int32)), (.int p3)] ∧ Z.Warmed39 U.vm ∧ U.heap = h0) (fun _ _ _ _ _ => True) (fun _ U o U' => ∃ v L, o = .returned v ∧ Q6 Z a1 sa ca p3 ks z vs kc vd ul ue uz h0 n0 v U'.heap L ∧ FrameEnd U o U' L ({ frames := 1, cells := 0, slots := 0, locals := 18 } : Room).cells ({ frames := 1, cells := 0, slots := 0, locals := 18 } : Room).slots) := by
  refine MetFree.of_bodySF (plainFor_of_name pn_6) hisR ?_
  intro p e s m args below meth c s₁ Bd hml0 hP hK
  obtain ⟨rfl, hZ, hh⟩ := hP
  have hx := Bd.exec
  have hby := Bd.bytes
  have hml : c.maxLocals = 5 := hml0
  have hown : s.vm.findClass "com/example/capwright/capwright/csv/CsvRow" = some m.cls := findClass_of_methodNamed Bd.named
  have hnm := (name_of_methodNamed Bd.named Bd.method).1
  have X0 : Stand p l e ({ frames := 1, cells := 0, slots := 0, locals := 18 } : Room) s m #[(.ref a1), (.ref sa), (.int (0 : Int32)), (.int p3)] below meth c s₁ [] 0 0 := Stand.of_body Bd
  have e0 : s₁.heap = h0 := by rw [← hh, Bd.state]; rfl
  have N0 := Fr.nil n0
  have pre0 : ∀ t, Steps p.tables e below (s₁.setTop (mkF m 0 #[.val (.ref a1), .val (.ref sa), .val (.int (0 : Int32)), .val (.int p3), .unset] [])) t → Steps p.tables e below (s₁.setTop (entryFrame m #[(.ref a1), (.ref sa), (.int (0 : Int32)), (.int p3)] 5)) t := fun t k => castTop (ef_6_xxxx m a1 sa (0 : Int32) p3) k
  have J1 : ∀ t, Steps p.tables e below (s₁.setTop (mkF m 5 #[.val (.ref a1), .val (.ref sa), .val (.int (0 : Int32)), .val (.int p3), .val (.int (p3 - (0 : Int32)))] [])) t → Steps p.tables e below (s₁.setTop (entryFrame m #[(.ref a1), (.ref sa), (.int (0 : Int32)), (.int p3)] 5)) t := fun t k => pre0 t (by
      show Steps p.tables e below (s₁.setTop (mkF m 0 #[.val (.ref a1), .val (.ref sa), .val (.int (0 : Int32)), .val (.int p3), .unset] [])) _
      refine XS.iloadN X0.here hx rfl (hb hby d6_0) rfl ?_
      show Steps p.tables e below (s₁.setTop (mkF m 1 #[.val (.ref a1), .val (.ref sa), .val (.int (0 : Int32)), .val (.int p3), .unset] [(.int p3)])) _
      refine XS.iloadN X0.here hx rfl (hb hby d6_1) rfl ?_
      show Steps p.tables e below (s₁.setTop (mkF m 2 #[.val (.ref a1), .val (.ref sa), .val (.int (0 : Int32)), .val (.int p3), .unset] [(.int (0 : Int32)), (.int p3)])) _
      refine XS.isub X0.here hx rfl (hb hby d6_2) rfl ?_
      show Steps p.tables e below (s₁.setTop (mkF m 3 #[.val (.ref a1), .val (.ref sa), .val (.int (0 : Int32)), .val (.int p3), .unset] [(.int (p3 - (0 : Int32)))])) _
      refine XS.istore X0.here hx rfl (hb hby d6_3) rfl (l' := #[.val (.ref a1), .val (.ref sa), .val (.int (0 : Int32)), .val (.int p3), .val (.int (p3 - (0 : Int32)))]) rfl ?_
      exact k)
  have J2 : ∀ t, Steps p.tables e below (s₁.setTop (mkF m 5 #[.val (.ref a1), .val (.ref sa), .val (.int (0 : Int32)), .val (.int p3), .val (.int p3)] [])) t → Steps p.tables e below (s₁.setTop (entryFrame m #[(.ref a1), (.ref sa), (.int (0 : Int32)), (.int p3)] 5)) t := fun t k => J1 t (by rw [(Int32.sub_zero p3)]; exact k)
  have J3 : ∀ t, Steps p.tables e below (s₁.setTop (mkF m 6 #[.val (.ref a1), .val (.ref sa), .val (.int (0 : Int32)), .val (.int p3), .val (.int p3)] [(.ref a1)])) t → Steps p.tables e below (s₁.setTop (entryFrame m #[(.ref a1), (.ref sa), (.int (0 : Int32)), (.int p3)] 5)) t := fun t k => J2 t (by
      show Steps p.tables e below (s₁.setTop (mkF m 5 #[.val (.ref a1), .val (.ref sa), .val (.int (0 : Int32)), .val (.int p3), .val (.int p3)] [])) _
      refine XS.aloadN X0.here hx rfl (hb hby d6_5) rfl rfl ?_
      exact k)
  obtain ⟨T4, X4, e4, st4⟩ := getF X0 hx hZ hown (host := "") (Or.inl (hw _ (List.mem_of_getElem? (i := 51) rfl))) Via.refl e0 F_length_a1 (g := (mkF m 6 #[.val (.ref a1), .val (.ref sa), .val (.int (0 : Int32)), .val (.int p3), .val (.int p3)] [(.ref a1)])) rfl rfl (hb hby d6_6)
  have J5 : ∀ t, Steps p.tables e below (T4.setTop (mkF m 9 #[.val (.ref a1), .val (.ref sa), .val (.int (0 : Int32)), .val (.int p3), .val (.int p3)] [(.int (0 : Int32))])) t → Steps p.tables e below (s₁.setTop (entryFrame m #[(.ref a1), (.ref sa), (.int (0 : Int32)), (.int p3)] 5)) t := fun t k => J3 t (st4 t k)
  have J6 : ∀ t, Steps p.tables e below (T4.setTop (mkF m 12 #[.val (.ref a1), .val (.ref sa), .val (.int (0 : Int32)), .val (.int p3), .val (.int p3)] [(.int ((0 : Int32) + p3))])) t → Steps p.tables e below (s₁.setTop (entryFrame m #[(.ref a1), (.ref sa), (.int (0 : Int32)), (.int p3)] 5)) t := fun t k => J5 t (by
      show Steps p.tables e below (T4.setTop (mkF m 9 #[.val (.ref a1), .val (.ref sa), .val (.int (0 : Int32)), .val (.int p3), .val (.int p3)] [(.int (0 : Int32))])) _
      refine XS.iload X4.here hx rfl (hb hby d6_9) rfl ?_
      show Steps p.tables e below (T4.setTop (mkF m 11 #[.val (.ref a1), .val (.ref sa), .val (.int (0 : Int32)), .val (.int p3), .val (.int p3)] [(.int p3), (.int (0 : Int32))])) _
      refine XS.iadd X4.here hx rfl (hb hby d6_11) rfl ?_
      exact k)
  have J7 : ∀ t, Steps p.tables e below (T4.setTop (mkF m 12 #[.val (.ref a1), .val (.ref sa), .val (.int (0 : Int32)), .val (.int p3), .val (.int p3)] [(.int p3)])) t → Steps p.tables e below (s₁.setTop (entryFrame m #[(.ref a1), (.ref sa), (.int (0 : Int32)), (.int p3)] 5)) t := fun t k => J6 t (by rw [(Int32.zero_add p3)]; exact k)
  have J8 : ∀ t, Steps p.tables e below (T4.setTop (mkF m 13 #[.val (.ref a1), .val (.ref sa), .val (.int (0 : Int32)), .val (.int p3), .val (.int p3)] [(.ref a1), (.int p3)])) t → Steps p.tables e below (s₁.setTop (entryFrame m #[(.ref a1), (.ref sa), (.int (0 : Int32)), (.int p3)] 5)) t := fun t k => J7 t (by
      show Steps p.tables e below (T4.setTop (mkF m 12 #[.val (.ref a1), .val (.ref sa), .val (.int (0 : Int32)), .val (.int p3), .val (.int p3)] [(.int p3)])) _
      refine XS.aloadN X4.here hx rfl (hb hby d6_12) rfl rfl ?_
      exact k)
  obtain ⟨T9, X9, e9, st9⟩ := getF X4 hx hZ hown (host := "") (Or.inl (hw _ (List.mem_of_getElem? (i := 45) rfl))) Via.refl e4 F_chars_a1 (g := (mkF m 13 #[.val (.ref a1), .val (.ref sa), .val (.int (0 : Int32)), .val (.int p3), .val (.int p3)] [(.ref a1), (.int p3)])) rfl rfl (hb hby d6_13)
  have J10 : ∀ t, Steps p.tables e below (T9.setTop (mkF m 16 #[.val (.ref a1), .val (.ref sa), .val (.int (0 : Int32)), .val (.int p3), .val (.int p3)] [(.ref ca), (.int p3)])) t → Steps p.tables e below (s₁.setTop (entryFrame m #[(.ref a1), (.ref sa), (.int (0 : Int32)), (.int p3)] 5)) t := fun t k => J8 t (st9 t k)
  obtain ⟨ccl, Ac, qk, Sc, hzc, Hc, Gc⟩ := id Av_ca
  have J11 : ∀ t, Steps p.tables e below (T9.setTop (mkF m 51 #[.val (.ref a1), .val (.ref sa), .val (.int (0 : Int32)), .val (.int p3), .val (.int p3)] [(.ref a1), (.int (0 : Int32)), (.ref sa)])) t → Steps p.tables e below (s₁.setTop (entryFrame m #[(.ref a1), (.ref sa), (.int (0 : Int32)), (.int p3)] 5)) t := fun t k => J10 t (by
      show Steps p.tables e below (T9.setTop (mkF m 16 #[.val (.ref a1), .val (.ref sa), .val (.int (0 : Int32)), .val (.int p3), .val (.int p3)] [(.ref ca), (.int p3)])) _
      refine X9.arraylength hx (cell := ccl) (by rw [e9]; exact Ac.1) (State.isArrayOf_alike hZ.alike Ac.2.1) (g := (mkF m 16 #[.val (.ref a1), .val (.ref sa), .val (.int (0 : Int32)), .val (.int p3), .val (.int p3)] [(.ref ca), (.int p3)])) rfl (rest := [(.int p3)]) rfl (hb hby d6_16) _ ?_
      rw [(len_of Sc hzc)]
      show Steps p.tables e below (T9.setTop (mkF m 17 #[.val (.ref a1), .val (.ref sa), .val (.int (0 : Int32)), .val (.int p3), .val (.int p3)] [(.int (256 : Int32)), (.int p3)])) _
      refine XS.icmpYes X9.here hx rfl (pc0 := 17) (pc' := 48) rfl (hb hby d6_17) rfl (flt hp1).2.2.2 (by decide) (by decide) ?_
      show Steps p.tables e below (T9.setTop (mkF m 48 #[.val (.ref a1), .val (.ref sa), .val (.int (0 : Int32)), .val (.int p3), .val (.int p3)] [])) _
      refine XS.aloadN X9.here hx rfl (hb hby d6_48) rfl rfl ?_
      show Steps p.tables e below (T9.setTop (mkF m 49 #[.val (.ref a1), .val (.ref sa), .val (.int (0 : Int32)), .val (.int p3), .val (.int p3)] [(.ref sa)])) _
      refine XS.iloadN X9.here hx rfl (hb hby d6_49) rfl ?_
      show Steps p.tables e below (T9.setTop (mkF m 50 #[.val (.ref a1), .val (.ref sa), .val (.int (0 : Int32)), .val (.int p3), .val (.int p3)] [(.int (0 : Int32)), (.ref sa)])) _
      refine XS.aloadN X9.here hx rfl (hb hby d6_50) rfl rfl ?_
      exact k)
  obtain ⟨T12, X12, e12, st12⟩ := getF X9 hx hZ hown (host := "") (Or.inl (hw _ (List.mem_of_getElem? (i := 45) rfl))) Via.refl e9 F_chars_a1 (g := (mkF m 51 #[.val (.ref a1), .val (.ref sa), .val (.int (0 : Int32)), .val (.int p3), .val (.int p3)] [(.ref a1), (.int (0 : Int32)), (.ref sa)])) rfl rfl (hb hby d6_51)
  have J13 : ∀ t, Steps p.tables e below (T12.setTop (mkF m 54 #[.val (.ref a1), .val (.ref sa), .val (.int (0 : Int32)), .val (.int p3), .val (.int p3)] [(.ref ca), (.int (0 : Int32)), (.ref sa)])) t → Steps p.tables e below (s₁.setTop (entryFrame m #[(.ref a1), (.ref sa), (.int (0 : Int32)), (.int p3)] 5)) t := fun t k => J11 t (st12 t k)
  have J14 : ∀ t, Steps p.tables e below (T12.setTop (mkF m 55 #[.val (.ref a1), .val (.ref sa), .val (.int (0 : Int32)), .val (.int p3), .val (.int p3)] [(.ref a1), (.ref ca), (.int (0 : Int32)), (.ref sa)])) t → Steps p.tables e below (s₁.setTop (entryFrame m #[(.ref a1), (.ref sa), (.int (0 : Int32)), (.int p3)] 5)) t := fun t k => J13 t (by
      show Steps p.tables e below (T12.setTop (mkF m 54 #[.val (.ref a1), .val (.ref sa), .val (.int (0 : Int32)), .val (.int p3), .val (.int p3)] [(.ref ca), (.int (0 : Int32)), (.ref sa)])) _
      refine XS.aloadN X12.here hx rfl (hb hby d6_54) rfl rfl ?_
      exact k)
  obtain ⟨T15, X15, e15, st15⟩ := getF X12 hx hZ hown (host := "") (Or.inl (hw _ (List.mem_of_getElem? (i := 51) rfl))) Via.refl e12 F_length_a1 (g := (mkF m 55 #[.val (.ref a1), .val (.ref sa), .val (.int (0 : Int32)), .val (.int p3), .val (.int p3)] [(.ref a1), (.ref ca), (.int (0 : Int32)), (.ref sa)])) rfl rfl (hb hby d6_55)
  have J16 : ∀ t, Steps p.tables e below (T15.setTop (mkF m 58 #[.val (.ref a1), .val (.ref sa), .val (.int (0 : Int32)), .val (.int p3), .val (.int p3)] [(.int (0 : Int32)), (.ref ca), (.int (0 : Int32)), (.ref sa)])) t → Steps p.tables e below (s₁.setTop (entryFrame m #[(.ref a1), (.ref sa), (.int (0 : Int32)), (.int p3)] 5)) t := fun t k => J14 t (st15 t k)
  have J17 : ∀ t, Steps p.tables e below (T15.setTop (mkF m 60 #[.val (.ref a1), .val (.ref sa), .val (.int (0 : Int32)), .val (.int p3), .val (.int p3)] [(.int p3), (.int (0 : Int32)), (.ref ca), (.int (0 : Int32)), (.ref sa)])) t → Steps p.tables e below (s₁.setTop (entryFrame m #[(.ref a1), (.ref sa), (.int (0 : Int32)), (.int p3)] 5)) t := fun t k => J16 t (by
      show Steps p.tables e below (T15.setTop (mkF m 58 #[.val (.ref a1), .val (.ref sa), .val (.int (0 : Int32)), .val (.int p3), .val (.int p3)] [(.int (0 : Int32)), (.ref ca), (.int (0 : Int32)), (.ref sa)])) _
      refine XS.iload X15.here hx rfl (hb hby d6_58) rfl ?_
      exact k)
  obtain ⟨T18, h18, L18, X18, e18, N18, K18, A18, st18⟩ := cpA X15 hx hZ hown (hw _ (List.mem_of_getElem? (i := 58) rfl)) (hw _ (List.mem_of_getElem? (i := 61) rfl)) (hw _ (List.mem_of_getElem? (i := 59) rfl)) (hw _ (List.mem_of_getElem? (i := 60) rfl)) e15 Av_sa Av_ca (Or.inl ⟨rfl, rfl⟩) (by decide) (by decide) hp0 (by rw [show (0 : Int32).toNatClampNeg = 0 from by decide, Nat.zero_add]; exact hp2) (by rw [show (0 : Int32).toNatClampNeg = 0 from by decide, Nat.zero_add, show (256 : Int32).toNatClampNeg = 256 from by decide]; exact hp3) rfl (by rw [show (0 : Int32).toNatClampNeg = 0 from by decide, Nat.zero_add]; exact Nat.le_trans hp3 hvd) N0 g_ca (g := (mkF m 60 #[.val (.ref a1), .val (.ref sa), .val (.int (0 : Int32)), .val (.int p3), .val (.int p3)] [(.int p3), (.int (0 : Int32)), (.ref ca), (.int (0 : Int32)), (.ref sa)])) rfl (by rw [hml]; rfl) rfl (hb hby d6_60) (by decide) (W := 0) (by show 2 * 0 + _ ≤ _; exact Nat.le_of_eq rfl) (by decide)
  have J19 : ∀ t, Steps p.tables e below (T18.setTop (mkF m 63 #[.val (.ref a1), .val (.ref sa), .val (.int (0 : Int32)), .val (.int p3), .val (.int p3)] [])) t → Steps p.tables e below (s₁.setTop (entryFrame m #[(.ref a1), (.ref sa), (.int (0 : Int32)), (.int p3)] 5)) t := fun t k => J17 t (st18 t k)
  have Z20 : n0 ≤ h18.size := Nat.le_trans Z0 K18.1
  have KK21 : Keep h0 h18 [a1, ca] := (Keep.refl h0 [a1, ca]).trans K18 (allS (Or.inl (List.mem_of_getElem? (i := 1) rfl)) all0)
  have J22 : ∀ t, Steps p.tables e below (T18.setTop (mkF m 65 #[.val (.ref a1), .val (.ref sa), .val (.int (0 : Int32)), .val (.int p3), .val (.int p3)] [(.ref a1), (.ref a1)])) t → Steps p.tables e below (s₁.setTop (entryFrame m #[(.ref a1), (.ref sa), (.int (0 : Int32)), (.int p3)] 5)) t := fun t k => J19 t (by
      show Steps p.tables e below (T18.setTop (mkF m 63 #[.val (.ref a1), .val (.ref sa), .val (.int (0 : Int32)), .val (.int p3), .val (.int p3)] [])) _
      refine XS.aloadN X18.here hx rfl (hb hby d6_63) rfl rfl ?_
      show Steps p.tables e below (T18.setTop (mkF m 64 #[.val (.ref a1), .val (.ref sa), .val (.int (0 : Int32)), .val (.int p3), .val (.int p3)] [(.ref a1)])) _
      refine XS.dup X18.here hx rfl (hb hby d6_64) rfl rfl ?_
      exact k)
  have f23 := F_length_a1.keep K18 (ninS ne_a1_ca nin0)
  obtain ⟨T24, X24, e24, st24⟩ := getF X18 hx hZ hown (host := "") (Or.inl (hw _ (List.mem_of_getElem? (i := 51) rfl))) Via.refl e18 f23 (g := (mkF m 65 #[.val (.ref a1), .val (.ref sa), .val (.int (0 : Int32)), .val (.int p3), .val (.int p3)] [(.ref a1), (.ref a1)])) rfl rfl (hb hby d6_65)
  have J25 : ∀ t, Steps p.tables e below (T24.setTop (mkF m 68 #[.val (.ref a1), .val (.ref sa), .val (.int (0 : Int32)), .val (.int p3), .val (.int p3)] [(.int (0 : Int32)), (.ref a1)])) t → Steps p.tables e below (s₁.setTop (entryFrame m #[(.ref a1), (.ref sa), (.int (0 : Int32)), (.int p3)] 5)) t := fun t k => J22 t (st24 t k)
  have J26 : ∀ t, Steps p.tables e below (T24.setTop (mkF m 71 #[.val (.ref a1), .val (.ref sa), .val (.int (0 : Int32)), .val (.int p3), .val (.int p3)] [(.int ((0 : Int32) + p3)), (.ref a1)])) t → Steps p.tables e below (s₁.setTop (entryFrame m #[(.ref a1), (.ref sa), (.int (0 : Int32)), (.int p3)] 5)) t := fun t k => J25 t (by
      show Steps p.tables e below (T24.setTop (mkF m 68 #[.val (.ref a1), .val (.ref sa), .val (.int (0 : Int32)), .val (.int p3), .val (.int p3)] [(.int (0 : Int32)), (.ref a1)])) _
      refine XS.iload X24.here hx rfl (hb hby d6_68) rfl ?_
      show Steps p.tables e below (T24.setTop (mkF m 70 #[.val (.ref a1), .val (.ref sa), .val (.int (0 : Int32)), .val (.int p3), .val (.int p3)] [(.int p3), (.int (0 : Int32)), (.ref a1)])) _
      refine XS.iadd X24.here hx rfl (hb hby d6_70) rfl ?_
      exact k)
  have J27 : ∀ t, Steps p.tables e below (T24.setTop (mkF m 71 #[.val (.ref a1), .val (.ref sa), .val (.int (0 : Int32)), .val (.int p3), .val (.int p3)] [(.int p3), (.ref a1)])) t → Steps p.tables e below (s₁.setTop (entryFrame m #[(.ref a1), (.ref sa), (.int (0 : Int32)), (.int p3)] 5)) t := fun t k => J26 t (by rw [(Int32.zero_add p3)]; exact k)
  have f28 := E_a1.keep K18
  obtain ⟨T29, h29, X29, e29, W29, st29⟩ := putF X24 hx hZ hown (host := "") (Or.inl (hw _ (List.mem_of_getElem? (i := 51) rfl))) Via.refl e24 f23 f28 (Or.inl (hw _ (List.mem_of_getElem? (i := 52) rfl))) (hw _ (List.mem_of_getElem? (i := 1) rfl)) (ty := .int) (by decide) rfl rfl (g := (mkF m 71 #[.val (.ref a1), .val (.ref sa), .val (.int (0 : Int32)), .val (.int p3), .val (.int p3)] [(.int p3), (.ref a1)])) rfl rfl (hb hby d6_71)
  have J30 : ∀ t, Steps p.tables e below (T29.setTop (mkF m 74 #[.val (.ref a1), .val (.ref sa), .val (.int (0 : Int32)), .val (.int p3), .val (.int p3)] [])) t → Steps p.tables e below (s₁.setTop (entryFrame m #[(.ref a1), (.ref sa), (.int (0 : Int32)), (.int p3)] 5)) t := fun t k => J27 t (st29 t k)
  have Z31 : n0 ≤ h29.size := Nat.le_trans Z20 (Keep.of_wr W29).1
  have KK32 : Keep h0 h29 [a1, ca] := KK21.wr W29 (Or.inl (List.mem_of_getElem? (i := 0) rfl))
  have N33 := Fr.snoc X29 N18 g_a1
  have Fw29 := f23.same W29
  obtain ⟨fs, hr, hrun, hended, hW, hsame⟩ := X29.leave (v := none) (fun _ => rfl)
  have f34 := f28.wr W29
  have f35 := F_chars_a1.keep K18 (ninS ne_a1_ca nin0)
  have f36 := f35.other W29 (Or.inr (slot_ne (Or.inl (hw _ (List.mem_of_getElem? (i := 46) rfl))) (Or.inl (hw _ (List.mem_of_getElem? (i := 52) rfl))) (by decide) (t := (.array .char)) (t' := .int) (by decide) (by decide)))
  have f37 := F_line_a1.keep K18 (ninS ne_a1_ca nin0)
  have f38 := f37.other W29 (Or.inr (slot_ne (Or.inl (hw _ (List.mem_of_getElem? (i := 42) rfl))) (Or.inl (hw _ (List.mem_of_getElem? (i := 52) rfl))) (by decide) (t := .int) (t' := .int) (by decide) (by decide)))
  have f39 := F_ends_a1.keep K18 (ninS ne_a1_ca nin0)
  have f40 := f39.other W29 (Or.inr (slot_ne (Or.inl (hw _ (List.mem_of_getElem? (i := 48) rfl))) (Or.inl (hw _ (List.mem_of_getElem? (i := 52) rfl))) (by decide) (t := (.array .int)) (t' := .int) (by decide) (by decide)))
  have f41 := F_size_a1.keep K18 (ninS ne_a1_ca nin0)
  have f42 := f41.other W29 (Or.inr (slot_ne (Or.inl (hw _ (List.mem_of_getElem? (i := 50) rfl))) (Or.inl (hw _ (List.mem_of_getElem? (i := 52) rfl))) (by decide) (t := .int) (t' := .int) (by decide) (by decide)))
  have f43 := A18.other W29 (Ne.symm ne_a1_ca)
  refine ⟨_, _, J30 _ ?_, hrun, hended, _, _, rfl, ?_, ⟨_, rfl⟩, hW, hsame.mono (by decide) (by decide)⟩
  · show Steps p.tables e below (T29.setTop (mkF m 74 #[.val (.ref a1), .val (.ref sa), .val (.int (0 : Int32)), .val (.int p3), .val (.int p3)] [])) _
    exact X29.returnOut hx Bd.returns (hb hby d6_74) hr
  · show Q6 Z a1 sa ca p3 ks z vs kc vd ul ue uz h0 n0 _ T29.heap _
    rw [e29]
    exact ⟨_, rfl, N33, KK32, f34, f36, f38, f40, f42, Fw29, f43, (own_cp1 hvd hp3), (fun q => by subst q; exact own_cp2)⟩
theorem d7_0 : decode prog_18_method_3_code 0 = .ok (.aload_n 0, 1) := by decide +kernel
theorem d7_1 : decode prog_18_method_3_code 1 = .ok (.iload_n 1, 1) := by decide +kernel
theorem d7_2 : decode prog_18_method_3_code 2 = .ok (.putfield 31, 3) := by decide +kernel
theorem d7_5 : decode prog_18_method_3_code 5 = .ok (.aload_n 0, 1) := by decide +kernel
theorem d7_6 : decode prog_18_method_3_code 6 = .ok (.iconst 0, 1) := by decide +kernel
theorem d7_7 : decode prog_18_method_3_code 7 = .ok (.putfield 47, 3) := by decide +kernel
theorem d7_10 : decode prog_18_method_3_code 10 = .ok (.aload_n 0, 1) := by decide +kernel
theorem d7_11 : decode prog_18_method_3_code 11 = .ok (.iconst 0, 1) := by decide +kernel
theorem d7_12 : decode prog_18_method_3_code 12 = .ok (.putfield 50, 3) := by decide +kernel
theorem d7_15 : decode prog_18_method_3_code 15 = .ok (.return_, 1) := by decide +kernel
theorem pn_7 : plainName "com/example/capwright/capwright/csv/CsvRow" = true := by first | (simp [plainName, overriddenIn]; done) | decide +kernel
theorem ef_7_xx (m : MethodId) (x0 : Addr) (x1 : Int32) : entryFrame m #[(.ref x0), (.int x1)] 2 = mkF m 0 #[.val (.ref x0), .val (.int x1)] [] := by first | (simp [entryFrame, mkF, argsToLocals, Value.category]; done) | rfl
def Q7 (Z : State) (a1 : Addr) (p1 : Int32) (u1 : Value) (u2 : Value) (u3 : Value) (uc : Value) (ue : Value) (h0 : Heap) (n0 : Nat) (v : Option Value) (h : Heap) (L : List Loc) : Prop := v = none ∧ Fr n0 L ∧ Keep h0 h [a1] ∧ (Exa Z h a1 "com/example/capwright/capwright/csv/CsvRow") ∧ (Fld Z h a1 "com/example/capwright/capwright/csv/CsvRow" "chars" "[C" uc) ∧ (Fld Z h a1 "com/example/capwright/capwright/csv/CsvRow" "ends" "[I" ue) ∧ (Fld Z h a1 "com/example/capwright/capwright/csv/CsvRow" "line" "I" (.int p1)) ∧ (Fld Z h a1 "com/example/capwright/capwright/csv/CsvRow" "size" "I" (.int (0 : Int32))) ∧ (Fld Z h a1 "com/example/capwright/capwright/csv/CsvRow" "length" "I" (.int (0 : Int32)))
set_option maxRecDepth 65536 in
set_option maxHeartbeats 40000000 in
theorem rm7 (l : Launch) (Z : State) (a0 : Array Value) (hw : ∀ d ∈ tables_1, d.before a0 Z = true) (ws : List Jvm.Cond) (a1 : Addr) (p1 : Int32) (u1 : Value) (u2 : Value) (u3 : Value) (uc : Value) (ue : Value) (h0 : Heap) (n0 : Nat) (Z0 : n0 ≤ h0.size) (E_a1 : Exa Z h0 a1 "com/example/capwright/capwright/csv/CsvRow") (g_a1 : n0 ≤ a1) (F_chars_a1 : Fld Z h0 a1 "com/example/capwright/capwright/csv/CsvRow" "chars" "[C" uc) (F_ends_a1 : Fld Z h0 a1 "com/example/capwright/capwright/csv/CsvRow" "ends" "[I" ue) (F_line_a1 : Fld Z h0 a1 "com/example/capwright/capwright/csv/CsvRow" "line" "I" u1) (F_size_a1 : Fld Z h0 a1 "com/example/capwright/capwright/csv/CsvRow" "size" "I" u2) (F_length_a1 : Fld Z h0 a1 "com/example/capwright/capwright/csv/CsvRow" "length" "I" u3) :
    MetFree l (⟨"com/example/capwright/capwright/csv/CsvRow", "clear", "(I)V"⟩ : MethodName) (head1 (Jvm.Cond.code (⟨"com/example/capwright/capwright/csv/CsvRow", "clear", "(I)V"⟩ : MethodName) prog_18_method_3_code 2 none :: ws) ({ frames := 0, cells := 0, slots := 0, locals := 0 } : Room)) (fun a U => a = #[(.ref a1), (.int p1)] ∧ Z.Warmed39 U.vm ∧ U.heap = h0) (fun _ _ _ _ _ => True) (fun _ U o U' => ∃ v L, o = .returned v ∧ Q7 Z a1 p1 u1 u2 u3 uc ue h0 n0 v U'.heap L ∧ FrameEnd U o U' L ({ frames := 0, cells := 0, slots := 0, locals := 0 } : Room).cells ({ frames := 0, cells := 0, slots := 0, locals := 0 } : Room).slots) := by
  refine MetFree.of_bodySF (plainFor_of_name pn_7) hisR ?_
  intro p e s m args below meth c s₁ Bd hml0 hP hK
  obtain ⟨rfl, hZ, hh⟩ := hP
  have hx := Bd.exec
  have hby := Bd.bytes
  have hml : c.maxLocals = 2 := hml0
  have hown : s.vm.findClass "com/example/capwright/capwright/csv/CsvRow" = some m.cls := findClass_of_methodNamed Bd.named
  have hnm := (name_of_methodNamed Bd.named Bd.method).1
  have X0 : Stand p l e ({ frames := 0, cells := 0, slots := 0, locals := 0 } : Room) s m #[(.ref a1), (.int p1)] below meth c s₁ [] 0 0 := Stand.of_body Bd
  have e0 : s₁.heap = h0 := by rw [← hh, Bd.state]; rfl
  have N0 := Fr.nil n0
  have pre0 : ∀ t, Steps p.tables e below (s₁.setTop (mkF m 0 #[.val (.ref a1), .val (.int p1)] [])) t → Steps p.tables e below (s₁.setTop (entryFrame m #[(.ref a1), (.int p1)] 2)) t := fun t k => castTop (ef_7_xx m a1 p1) k
  have J1 : ∀ t, Steps p.tables e below (s₁.setTop (mkF m 2 #[.val (.ref a1), .val (.int p1)] [(.int p1), (.ref a1)])) t → Steps p.tables e below (s₁.setTop (entryFrame m #[(.ref a1), (.int p1)] 2)) t := fun t k => pre0 t (by
      show Steps p.tables e below (s₁.setTop (mkF m 0 #[.val (.ref a1), .val (.int p1)] [])) _
      refine XS.aloadN X0.here hx rfl (hb hby d7_0) rfl rfl ?_
      show Steps p.tables e below (s₁.setTop (mkF m 1 #[.val (.ref a1), .val (.int p1)] [(.ref a1)])) _
      refine XS.iloadN X0.here hx rfl (hb hby d7_1) rfl ?_
      exact k)
  obtain ⟨T2, h2, X2, e2, W2, st2⟩ := putF X0 hx hZ hown (host := "") (Or.inl (hw _ (List.mem_of_getElem? (i := 41) rfl))) Via.refl e0 F_line_a1 E_a1 (Or.inl (hw _ (List.mem_of_getElem? (i := 42) rfl))) (hw _ (List.mem_of_getElem? (i := 1) rfl)) (ty := .int) (by decide) rfl rfl (g := (mkF m 2 #[.val (.ref a1), .val (.int p1)] [(.int p1), (.ref a1)])) rfl rfl (hb hby d7_2)
  have J3 : ∀ t, Steps p.tables e below (T2.setTop (mkF m 5 #[.val (.ref a1), .val (.int p1)] [])) t → Steps p.tables e below (s₁.setTop (entryFrame m #[(.ref a1), (.int p1)] 2)) t := fun t k => J1 t (st2 t k)
  have Z4 : n0 ≤ h2.size := Nat.le_trans Z0 (Keep.of_wr W2).1
  have KK5 : Keep h0 h2 [a1] := (Keep.refl h0 [a1]).wr W2 (Or.inl (List.mem_of_getElem? (i := 0) rfl))
  have N6 := Fr.snoc X2 N0 g_a1
  have Fw2 := F_line_a1.same W2
  have J7 : ∀ t, Steps p.tables e below (T2.setTop (mkF m 7 #[.val (.ref a1), .val (.int p1)] [(.int (0 : Int32)), (.ref a1)])) t → Steps p.tables e below (s₁.setTop (entryFrame m #[(.ref a1), (.int p1)] 2)) t := fun t k => J3 t (by
      show Steps p.tables e below (T2.setTop (mkF m 5 #[.val (.ref a1), .val (.int p1)] [])) _
      refine XS.aloadN X2.here hx rfl (hb hby d7_5) rfl rfl ?_
      show Steps p.tables e below (T2.setTop (mkF m 6 #[.val (.ref a1), .val (.int p1)] [(.ref a1)])) _
      refine XS.iconst X2.here hx rfl (hb hby d7_6) ?_
      exact k)
  have f8 := F_size_a1.other W2 (Or.inr (slot_ne (Or.inl (hw _ (List.mem_of_getElem? (i := 50) rfl))) (Or.inl (hw _ (List.mem_of_getElem? (i := 42) rfl))) (by decide) (t := .int) (t' := .int) (by decide) (by decide)))
  have f9 := E_a1.wr W2
  obtain ⟨T10, h10, X10, e10, W10, st10⟩ := putF X2 hx hZ hown (host := "") (Or.inl (hw _ (List.mem_of_getElem? (i := 49) rfl))) Via.refl e2 f8 f9 (Or.inl (hw _ (List.mem_of_getElem? (i := 50) rfl))) (hw _ (List.mem_of_getElem? (i := 1) rfl)) (ty := .int) (by decide) rfl rfl (g := (mkF m 7 #[.val (.ref a1), .val (.int p1)] [(.int (0 : Int32)), (.ref a1)])) rfl rfl (hb hby d7_7)
  have J11 : ∀ t, Steps p.tables e below (T10.setTop (mkF m 10 #[.val (.ref a1), .val (.int p1)] [])) t → Steps p.tables e below (s₁.setTop (entryFrame m #[(.ref a1), (.int p1)] 2)) t := fun t k => J7 t (st10 t k)
  have Z12 : n0 ≤ h10.size := Nat.le_trans Z4 (Keep.of_wr W10).1
  have KK13 : Keep h0 h10 [a1] := KK5.wr W10 (Or.inl (List.mem_of_getElem? (i := 0) rfl))
  have N14 := Fr.snoc X10 N6 g_a1
  have Fw10 := f8.same W10
  have J15 : ∀ t, Steps p.tables e below (T10.setTop (mkF m 12 #[.val (.ref a1), .val (.int p1)] [(.int (0 : Int32)), (.ref a1)])) t → Steps p.tables e below (s₁.setTop (entryFrame m #[(.ref a1), (.int p1)] 2)) t := fun t k => J11 t (by
      show Steps p.tables e below (T10.setTop (mkF m 10 #[.val (.ref a1), .val (.int p1)] [])) _
      refine XS.aloadN X10.here hx rfl (hb hby d7_10) rfl rfl ?_
      show Steps p.tables e below (T10.setTop (mkF m 11 #[.val (.ref a1), .val (.int p1)] [(.ref a1)])) _
      refine XS.iconst X10.here hx rfl (hb hby d7_11) ?_
      exact k)
  have f16 := F_length_a1.other W2 (Or.inr (slot_ne (Or.inl (hw _ (List.mem_of_getElem? (i := 52) rfl))) (Or.inl (hw _ (List.mem_of_getElem? (i := 42) rfl))) (by decide) (t := .int) (t' := .int) (by decide) (by decide)))
  have f17 := f16.other W10 (Or.inr (slot_ne (Or.inl (hw _ (List.mem_of_getElem? (i := 52) rfl))) (Or.inl (hw _ (List.mem_of_getElem? (i := 50) rfl))) (by decide) (t := .int) (t' := .int) (by decide) (by decide)))
  have f18 := f9.wr W10
  obtain ⟨T19, h19, X19, e19, W19, st19⟩ := putF X10 hx hZ hown (host := "") (Or.inl (hw _ (List.mem_of_getElem? (i := 51) rfl))) Via.refl e10 f17 f18 (Or.inl (hw _ (List.mem_of_getElem? (i := 52) rfl))) (hw _ (List.mem_of_getElem? (i := 1) rfl)) (ty := .int) (by decide) rfl rfl (g := (mkF m 12 #[.val (.ref a1), .val (.int p1)] [(.int (0 : Int32)), (.ref a1)])) rfl rfl (hb hby d7_12)
  have J20 : ∀ t, Steps p.tables e below (T19.setTop (mkF m 15 #[.val (.ref a1), .val (.int p1)] [])) t → Steps p.tables e below (s₁.setTop (entryFrame m #[(.ref a1), (.int p1)] 2)) t := fun t k => J15 t (st19 t k)
  have Z21 : n0 ≤ h19.size := Nat.le_trans Z12 (Keep.of_wr W19).1
  have KK22 : Keep h0 h19 [a1] := KK13.wr W19 (Or.inl (List.mem_of_getElem? (i := 0) rfl))
  have N23 := Fr.snoc X19 N14 g_a1
  have Fw19 := f17.same W19
  obtain ⟨fs, hr, hrun, hended, hW, hsame⟩ := X19.leave (v := none) (fun _ => rfl)
  have f24 := f18.wr W19
  have f25 := F_chars_a1.other W2 (Or.inr (slot_ne (Or.inl (hw _ (List.mem_of_getElem? (i := 46) rfl))) (Or.inl (hw _ (List.mem_of_getElem? (i := 42) rfl))) (by decide) (t := (.array .char)) (t' := .int) (by decide) (by decide)))
  have f26 := f25.other W10 (Or.inr (slot_ne (Or.inl (hw _ (List.mem_of_getElem? (i := 46) rfl))) (Or.inl (hw _ (List.mem_of_getElem? (i := 50) rfl))) (by decide) (t := (.array .char)) (t' := .int) (by decide) (by decide)))
  have f27 := f26.other W19 (Or.inr (slot_ne (Or.inl (hw _ (List.mem_of_getElem? (i := 46) rfl))) (Or.inl (hw _ (List.mem_of_getElem? (i := 52) rfl))) (by decide) (t := (.array .char)) (t' := .int) (by decide) (by decide)))
  have f28 := F_ends_a1.other W2 (Or.inr (slot_ne (Or.inl (hw _ (List.mem_of_getElem? (i := 48) rfl))) (Or.inl (hw _ (List.mem_of_getElem? (i := 42) rfl))) (by decide) (t := (.array .int)) (t' := .int) (by decide) (by decide)))
  have f29 := f28.other W10 (Or.inr (slot_ne (Or.inl (hw _ (List.mem_of_getElem? (i := 48) rfl))) (Or.inl (hw _ (List.mem_of_getElem? (i := 50) rfl))) (by decide) (t := (.array .int)) (t' := .int) (by decide) (by decide)))
  have f30 := f29.other W19 (Or.inr (slot_ne (Or.inl (hw _ (List.mem_of_getElem? (i := 48) rfl))) (Or.inl (hw _ (List.mem_of_getElem? (i := 52) rfl))) (by decide) (t := (.array .int)) (t' := .int) (by decide) (by decide)))
  have f31 := Fw2.other W10 (Or.inr (slot_ne (Or.inl (hw _ (List.mem_of_getElem? (i := 42) rfl))) (Or.inl (hw _ (List.mem_of_getElem? (i := 50) rfl))) (by decide) (t := .int) (t' := .int) (by decide) (by decide)))
  have f32 := f31.other W19 (Or.inr (slot_ne (Or.inl (hw _ (List.mem_of_getElem? (i := 42) rfl))) (Or.inl (hw _ (List.mem_of_getElem? (i := 52) rfl))) (by decide) (t := .int) (t' := .int) (by decide) (by decide)))
  have f33 := Fw10.other W19 (Or.inr (slot_ne (Or.inl (hw _ (List.mem_of_getElem? (i := 50) rfl))) (Or.inl (hw _ (List.mem_of_getElem? (i := 52) rfl))) (by decide) (t := .int) (t' := .int) (by decide) (by decide)))
  refine ⟨_, _, J20 _ ?_, hrun, hended, _, _, rfl, ?_, ⟨_, rfl⟩, hW, hsame.mono (by decide) (by decide)⟩
  · show Steps p.tables e below (T19.setTop (mkF m 15 #[.val (.ref a1), .val (.int p1)] [])) _
    exact X19.returnOut hx Bd.returns (hb hby d7_15) hr
  · show Q7 Z a1 p1 u1 u2 u3 uc ue h0 n0 _ T19.heap _
    rw [e19]
    exact ⟨rfl, N23, KK22, f24, f27, f30, f32, f33, Fw19⟩
theorem d8_0 : decode prog_18_method_13_code 0 = .ok (.aload_n 0, 1) := by decide +kernel
theorem d8_1 : decode prog_18_method_13_code 1 = .ok (.getfield 31, 3) := by decide +kernel
theorem d8_4 : decode prog_18_method_13_code 4 = .ok (.ireturn, 1) := by decide +kernel
theorem pn_8 : plainName "com/example/capwright/capwright/csv/CsvRow" = true := by first | (simp [plainName, overriddenIn]; done) | decide +kernel
theorem ef_8_x (m : MethodId) (x0 : Addr) : entryFrame m #[(.ref x0)] 1 = mkF m 0 #[.val (.ref x0)] [] := by first | (simp [entryFrame, mkF, argsToLocals, Value.category]; done) | rfl
def Q8 (Z : State) (a1 : Addr) (w : Int32) (h0 : Heap) (n0 : Nat) (v : Option Value) (h : Heap) (L : List Loc) : Prop := v = some (.int w) ∧ Fr n0 L ∧ h = h0
set_option maxRecDepth 65536 in
set_option maxHeartbeats 40000000 in
theorem rm8 (l : Launch) (Z : State) (a0 : Array Value) (hw : ∀ d ∈ tables_1, d.before a0 Z = true) (ws : List Jvm.Cond) (a1 : Addr) (w : Int32) (h0 : Heap) (n0 : Nat) (Z0 : n0 ≤ h0.size) (F_line_a1 : Fld Z h0 a1 "com/example/capwright/capwright/csv/CsvRow" "line" "I" (.int w)) :
    MetFree l (⟨"com/example/capwright/capwright/csv/CsvRow", "line", "()I"⟩ : MethodName) (head1 (Jvm.Cond.code (⟨"com/example/capwright/capwright/csv/CsvRow", "line", "()I"⟩ : MethodName) prog_18_method_13_code 1 (some .int) :: ws) ({ frames := 0, cells := 0, slots := 0, locals := 0 } : Room)) (fun a U => a = #[(.ref a1)] ∧ Z.Warmed39 U.vm ∧ U.heap = h0) (fun _ _ _ _ _ => True) (fun _ U o U' => ∃ v L, o = .returned v ∧ Q8 Z a1 w h0 n0 v U'.heap L ∧ FrameEnd U o U' L ({ frames := 0, cells := 0, slots := 0, locals := 0 } : Room).cells ({ frames := 0, cells := 0, slots := 0, locals := 0 } : Room).slots) := by
  refine MetFree.of_bodySF (plainFor_of_name pn_8) hisR ?_
  intro p e s m args below meth c s₁ Bd hml0 hP hK
  obtain ⟨rfl, hZ, hh⟩ := hP
  have hx := Bd.exec
  have hby := Bd.bytes
  have hml : c.maxLocals = 1 := hml0
  have hown : s.vm.findClass "com/example/capwright/capwright/csv/CsvRow" = some m.cls := findClass_of_methodNamed Bd.named
  have hnm := (name_of_methodNamed Bd.named Bd.method).1
  have X0 : Stand p l e ({ frames := 0, cells := 0, slots := 0, locals := 0 } : Room) s m #[(.ref a1)] below meth c s₁ [] 0 0 := Stand.of_body Bd
  have e0 : s₁.heap = h0 := by rw [← hh, Bd.state]; rfl
  have N0 := Fr.nil n0
  have pre0 : ∀ t, Steps p.tables e below (s₁.setTop (mkF m 0 #[.val (.ref a1)] [])) t → Steps p.tables e below (s₁.setTop (entryFrame m #[(.ref a1)] 1)) t := fun t k => castTop (ef_8_x m a1) k
  have J1 : ∀ t, Steps p.tables e below (s₁.setTop (mkF m 1 #[.val (.ref a1)] [(.ref a1)])) t → Steps p.tables e below (s₁.setTop (entryFrame m #[(.ref a1)] 1)) t := fun t k => pre0 t (by
      show Steps p.tables e below (s₁.setTop (mkF m 0 #[.val (.ref a1)] [])) _
      refine XS.aloadN X0.here hx rfl (hb hby d8_0) rfl rfl ?_
      exact k)
  obtain ⟨T2, X2, e2, st2⟩ := getF X0 hx hZ hown (host := "") (Or.inl (hw _ (List.mem_of_getElem? (i := 41) rfl))) Via.refl e0 F_line_a1 (g := (mkF m 1 #[.val (.ref a1)] [(.ref a1)])) rfl rfl (hb hby d8_1)
  have J3 : ∀ t, Steps p.tables e below (T2.setTop (mkF m 4 #[.val (.ref a1)] [(.int w)])) t → Steps p.tables e below (s₁.setTop (entryFrame m #[(.ref a1)] 1)) t := fun t k => J1 t (st2 t k)
  obtain ⟨fs, hr, hrun, hended, hW, hsame⟩ := X2.leave (v := some (.int w)) (fun h => by rw [Bd.returns] at h; cases h)
  refine ⟨_, _, J3 _ ?_, hrun, hended, _, _, rfl, ?_, ⟨_, rfl⟩, hW, hsame.mono (by decide) (by decide)⟩
  · show Steps p.tables e below (T2.setTop (mkF m 4 #[.val (.ref a1)] [(.int w)])) _
    exact retI X2 hx Bd.returns (hb hby d8_4) hr
  · show Q8 Z a1 w h0 n0 _ T2.heap _
    rw [e2]
    exact ⟨rfl, N0, rfl⟩
theorem d9_0 : decode prog_18_method_7_code 0 = .ok (.aload_n 0, 1) := by decide +kernel
theorem d9_1 : decode prog_18_method_7_code 1 = .ok (.getfield 47, 3) := by decide +kernel
theorem d9_4 : decode prog_18_method_7_code 4 = .ok (.ireturn, 1) := by decide +kernel
theorem pn_9 : plainName "com/example/capwright/capwright/csv/CsvRow" = true := by first | (simp [plainName, overriddenIn]; done) | decide +kernel
theorem ef_9_x (m : MethodId) (x0 : Addr) : entryFrame m #[(.ref x0)] 1 = mkF m 0 #[.val (.ref x0)] [] := by first | (simp [entryFrame, mkF, argsToLocals, Value.category]; done) | rfl
def Q9 (Z : State) (a1 : Addr) (w : Int32) (h0 : Heap) (n0 : Nat) (v : Option Value) (h : Heap) (L : List Loc) : Prop := v = some (.int w) ∧ Fr n0 L ∧ h = h0
set_option maxRecDepth 65536 in
set_option maxHeartbeats 40000000 in
theorem rm9 (l : Launch) (Z : State) (a0 : Array Value) (hw : ∀ d ∈ tables_1, d.before a0 Z = true) (ws : List Jvm.Cond) (a1 : Addr) (w : Int32) (h0 : Heap) (n0 : Nat) (Z0 : n0 ≤ h0.size) (F_size_a1 : Fld Z h0 a1 "com/example/capwright/capwright/csv/CsvRow" "size" "I" (.int w)) :
    MetFree l (⟨"com/example/capwright/capwright/csv/CsvRow", "size", "()I"⟩ : MethodName) (head1 (Jvm.Cond.code (⟨"com/example/capwright/capwright/csv/CsvRow", "size", "()I"⟩ : MethodName) prog_18_method_7_code 1 (some .int) :: ws) ({ frames := 0, cells := 0, slots := 0, locals := 0 } : Room)) (fun a U => a = #[(.ref a1)] ∧ Z.Warmed39 U.vm ∧ U.heap = h0) (fun _ _ _ _ _ => True) (fun _ U o U' => ∃ v L, o = .returned v ∧ Q9 Z a1 w h0 n0 v U'.heap L ∧ FrameEnd U o U' L ({ frames := 0, cells := 0, slots := 0, locals := 0 } : Room).cells ({ frames := 0, cells := 0, slots := 0, locals := 0 } : Room).slots) := by
  refine MetFree.of_bodySF (plainFor_of_name pn_9) hisR ?_
  intro p e s m args below meth c s₁ Bd hml0 hP hK
  obtain ⟨rfl, hZ, hh⟩ := hP
  have hx := Bd.exec
  have hby := Bd.bytes
  have hml : c.maxLocals = 1 := hml0
  have hown : s.vm.findClass "com/example/capwright/capwright/csv/CsvRow" = some m.cls := findClass_of_methodNamed Bd.named
  have hnm := (name_of_methodNamed Bd.named Bd.method).1
  have X0 : Stand p l e ({ frames := 0, cells := 0, slots := 0, locals := 0 } : Room) s m #[(.ref a1)] below meth c s₁ [] 0 0 := Stand.of_body Bd
  have e0 : s₁.heap = h0 := by rw [← hh, Bd.state]; rfl
  have N0 := Fr.nil n0
  have pre0 : ∀ t, Steps p.tables e below (s₁.setTop (mkF m 0 #[.val (.ref a1)] [])) t → Steps p.tables e below (s₁.setTop (entryFrame m #[(.ref a1)] 1)) t := fun t k => castTop (ef_9_x m a1) k
  have J1 : ∀ t, Steps p.tables e below (s₁.setTop (mkF m 1 #[.val (.ref a1)] [(.ref a1)])) t → Steps p.tables e below (s₁.setTop (entryFrame m #[(.ref a1)] 1)) t := fun t k => pre0 t (by
      show Steps p.tables e below (s₁.setTop (mkF m 0 #[.val (.ref a1)] [])) _
      refine XS.aloadN X0.here hx rfl (hb hby d9_0) rfl rfl ?_
      exact k)
  obtain ⟨T2, X2, e2, st2⟩ := getF X0 hx hZ hown (host := "") (Or.inl (hw _ (List.mem_of_getElem? (i := 49) rfl))) Via.refl e0 F_size_a1 (g := (mkF m 1 #[.val (.ref a1)] [(.ref a1)])) rfl rfl (hb hby d9_1)
  have J3 : ∀ t, Steps p.tables e below (T2.setTop (mkF m 4 #[.val (.ref a1)] [(.int w)])) t → Steps p.tables e below (s₁.setTop (entryFrame m #[(.ref a1)] 1)) t := fun t k => J1 t (st2 t k)
  obtain ⟨fs, hr, hrun, hended, hW, hsame⟩ := X2.leave (v := some (.int w)) (fun h => by rw [Bd.returns] at h; cases h)
  refine ⟨_, _, J3 _ ?_, hrun, hended, _, _, rfl, ?_, ⟨_, rfl⟩, hW, hsame.mono (by decide) (by decide)⟩
  · show Steps p.tables e below (T2.setTop (mkF m 4 #[.val (.ref a1)] [(.int w)])) _
    exact retI X2 hx Bd.returns (hb hby d9_4) hr
  · show Q9 Z a1 w h0 n0 _ T2.heap _
    rw [e2]
    exact ⟨rfl, N0, rfl⟩
theorem d10_0 : decode prog_18_method_5_code 0 = .ok (.aload_n 0, 1) := by decide +kernel
theorem d10_1 : decode prog_18_method_5_code 1 = .ok (.getfield 47, 3) := by decide +kernel
theorem d10_4 : decode prog_18_method_5_code 4 = .ok (.aload_n 0, 1) := by decide +kernel
theorem d10_5 : decode prog_18_method_5_code 5 = .ok (.getfield 43, 3) := by decide +kernel
theorem d10_8 : decode prog_18_method_5_code 8 = .ok (.arraylength, 1) := by decide +kernel
theorem d10_9 : decode prog_18_method_5_code 9 = .ok (.if_icmp .ne 21, 3) := by decide +kernel
theorem d10_30 : decode prog_18_method_5_code 30 = .ok (.aload_n 0, 1) := by decide +kernel
theorem d10_31 : decode prog_18_method_5_code 31 = .ok (.getfield 43, 3) := by decide +kernel
theorem d10_34 : decode prog_18_method_5_code 34 = .ok (.aload_n 0, 1) := by decide +kernel
theorem d10_35 : decode prog_18_method_5_code 35 = .ok (.dup, 1) := by decide +kernel
theorem d10_36 : decode prog_18_method_5_code 36 = .ok (.getfield 47, 3) := by decide +kernel
theorem d10_39 : decode prog_18_method_5_code 39 = .ok (.dup_x1, 1) := by decide +kernel
theorem d10_40 : decode prog_18_method_5_code 40 = .ok (.iconst 1, 1) := by decide +kernel
theorem d10_41 : decode prog_18_method_5_code 41 = .ok (.iadd, 1) := by decide +kernel
theorem d10_42 : decode prog_18_method_5_code 42 = .ok (.putfield 47, 3) := by decide +kernel
theorem d10_45 : decode prog_18_method_5_code 45 = .ok (.aload_n 0, 1) := by decide +kernel
theorem d10_46 : decode prog_18_method_5_code 46 = .ok (.getfield 50, 3) := by decide +kernel
theorem d10_49 : decode prog_18_method_5_code 49 = .ok (.iastore, 1) := by decide +kernel
theorem d10_50 : decode prog_18_method_5_code 50 = .ok (.return_, 1) := by decide +kernel
theorem pn_10 : plainName "com/example/capwright/capwright/csv/CsvRow" = true := by first | (simp [plainName, overriddenIn]; done) | decide +kernel
theorem ef_10_x (m : MethodId) (x0 : Addr) : entryFrame m #[(.ref x0)] 1 = mkF m 0 #[.val (.ref x0)] [] := by first | (simp [entryFrame, mkF, argsToLocals, Value.category]; done) | rfl
def Q10 (Z : State) (a1 : Addr) (ea : Addr) (ecl : Cell) (w : Int32) (uc : Value) (ul : Value) (h0 : Heap) (n0 : Nat) (v : Option Value) (h : Heap) (L : List Loc) : Prop := ∃ (ecl' : Cell), v = none ∧ Fr n0 L ∧ Keep h0 h [a1, ea] ∧ (Exa Z h a1 "com/example/capwright/capwright/csv/CsvRow") ∧ (Fld Z h a1 "com/example/capwright/capwright/csv/CsvRow" "chars" "[C" uc) ∧ (Fld Z h a1 "com/example/capwright/capwright/csv/CsvRow" "line" "I" ul) ∧ (Fld Z h a1 "com/example/capwright/capwright/csv/CsvRow" "ends" "[I" (.ref ea)) ∧ (Fld Z h a1 "com/example/capwright/capwright/csv/CsvRow" "size" "I" (.int (1 : Int32))) ∧ (Fld Z h a1 "com/example/capwright/capwright/csv/CsvRow" "length" "I" (.int w)) ∧ (Arr Z h ea ecl' .int) ∧ (ecl'.slots.size = 16) ∧ (ecl'.slots[0]? = some (.int w))
set_option maxRecDepth 65536 in
set_option maxHeartbeats 40000000 in
theorem rm10 (l : Launch) (Z : State) (a0 : Array Value) (hw : ∀ d ∈ tables_1, d.before a0 Z = true) (ws : List Jvm.Cond) (a1 : Addr) (ea : Addr) (ecl : Cell) (w : Int32) (uc : Value) (ul : Value) (h0 : Heap) (n0 : Nat) (Z0 : n0 ≤ h0.size) (E_a1 : Exa Z h0 a1 "com/example/capwright/capwright/csv/CsvRow") (g_a1 : n0 ≤ a1) (F_chars_a1 : Fld Z h0 a1 "com/example/capwright/capwright/csv/CsvRow" "chars" "[C" uc) (F_line_a1 : Fld Z h0 a1 "com/example/capwright/capwright/csv/CsvRow" "line" "I" ul) (F_ends_a1 : Fld Z h0 a1 "com/example/capwright/capwright/csv/CsvRow" "ends" "[I" (.ref ea)) (F_size_a1 : Fld Z h0 a1 "com/example/capwright/capwright/csv/CsvRow" "size" "I" (.int (0 : Int32))) (F_length_a1 : Fld Z h0 a1 "com/example/capwright/capwright/csv/CsvRow" "length" "I" (.int w)) (Ar_ea : Arr Z h0 ea ecl .int) (g_ea : n0 ≤ ea) (hez : ecl.slots.size = 16) (ne_a1_ea : a1 ≠ ea) :
    MetFree l (⟨"com/example/capwright/capwright/csv/CsvRow", "endField", "()V"⟩ : MethodName) (head1 (Jvm.Cond.code (⟨"com/example/capwright/capwright/csv/CsvRow", "endField", "()V"⟩ : MethodName) prog_18_method_5_code 1 none :: ws) ({ frames := 0, cells := 0, slots := 0, locals := 0 } : Room)) (fun a U => a = #[(.ref a1)] ∧ Z.Warmed39 U.vm ∧ U.heap = h0) (fun _ _ _ _ _ => True) (fun _ U o U' => ∃ v L, o = .returned v ∧ Q10 Z a1 ea ecl w uc ul h0 n0 v U'.heap L ∧ FrameEnd U o U' L ({ frames := 0, cells := 0, slots := 0, locals := 0 } : Room).cells ({ frames := 0, cells := 0, slots := 0, locals := 0 } : Room).slots) := by
  refine MetFree.of_bodySF (plainFor_of_name pn_10) hisR ?_
  intro p e s m args below meth c s₁ Bd hml0 hP hK
  obtain ⟨rfl, hZ, hh⟩ := hP
  have hx := Bd.exec
  have hby := Bd.bytes
  have hml : c.maxLocals = 1 := hml0
  have hown : s.vm.findClass "com/example/capwright/capwright/csv/CsvRow" = some m.cls := findClass_of_methodNamed Bd.named
  have hnm := (name_of_methodNamed Bd.named Bd.method).1
  have X0 : Stand p l e ({ frames := 0, cells := 0, slots := 0, locals := 0 } : Room) s m #[(.ref a1)] below meth c s₁ [] 0 0 := Stand.of_body Bd
  have e0 : s₁.heap = h0 := by rw [← hh, Bd.state]; rfl
  have N0 := Fr.nil n0
  have pre0 : ∀ t, Steps p.tables e below (s₁.setTop (mkF m 0 #[.val (.ref a1)] [])) t → Steps p.tables e below (s₁.setTop (entryFrame m #[(.ref a1)] 1)) t := fun t k => castTop (ef_10_x m a1) k
  have J1 : ∀ t, Steps p.tables e below (s₁.setTop (mkF m 1 #[.val (.ref a1)] [(.ref a1)])) t → Steps p.tables e below (s₁.setTop (entryFrame m #[(.ref a1)] 1)) t := fun t k => pre0 t (by
      show Steps p.tables e below (s₁.setTop (mkF m 0 #[.val (.ref a1)] [])) _
      refine XS.aloadN X0.here hx rfl (hb hby d10_0) rfl rfl ?_
      exact k)
  obtain ⟨T2, X2, e2, st2⟩ := getF X0 hx hZ hown (host := "") (Or.inl (hw _ (List.mem_of_getElem? (i := 49) rfl))) Via.refl e0 F_size_a1 (g := (mkF m 1 #[.val (.ref a1)] [(.ref a1)])) rfl rfl (hb hby d10_1)
  have J3 : ∀ t, Steps p.tables e below (T2.setTop (mkF m 4 #[.val (.ref a1)] [(.int (0 : Int32))])) t → Steps p.tables e below (s₁.setTop (entryFrame m #[(.ref a1)] 1)) t := fun t k => J1 t (st2 t k)
  have J4 : ∀ t, Steps p.tables e below (T2.setTop (mkF m 5 #[.val (.ref a1)] [(.ref a1), (.int (0 : Int32))])) t → Steps p.tables e below (s₁.setTop (entryFrame m #[(.ref a1)] 1)) t := fun t k => J3 t (by
      show Steps p.tables e below (T2.setTop (mkF m 4 #[.val (.ref a1)] [(.int (0 : Int32))])) _
      refine XS.aloadN X2.here hx rfl (hb hby d10_4) rfl rfl ?_
      exact k)
  obtain ⟨T5, X5, e5, st5⟩ := getF X2 hx hZ hown (host := "") (Or.inl (hw _ (List.mem_of_getElem? (i := 47) rfl))) Via.refl e2 F_ends_a1 (g := (mkF m 5 #[.val (.ref a1)] [(.ref a1), (.int (0 : Int32))])) rfl rfl (hb hby d10_5)
  have J6 : ∀ t, Steps p.tables e below (T5.setTop (mkF m 8 #[.val (.ref a1)] [(.ref ea), (.int (0 : Int32))])) t → Steps p.tables e below (s₁.setTop (entryFrame m #[(.ref a1)] 1)) t := fun t k => J4 t (st5 t k)
  have J7 : ∀ t, Steps p.tables e below (T5.setTop (mkF m 31 #[.val (.ref a1)] [(.ref a1)])) t → Steps p.tables e below (s₁.setTop (entryFrame m #[(.ref a1)] 1)) t := fun t k => J6 t (by
      show Steps p.tables e below (T5.setTop (mkF m 8 #[.val (.ref a1)] [(.ref ea), (.int (0 : Int32))])) _
      refine X5.arraylength hx (cell := ecl) (by rw [e5]; exact Ar_ea.1) (State.isArrayOf_alike hZ.alike Ar_ea.2.1) (g := (mkF m 8 #[.val (.ref a1)] [(.ref ea), (.int (0 : Int32))])) rfl (rest := [(.int (0 : Int32))]) rfl (hb hby d10_8) _ ?_
      rw [(show ecl.slots.size.toInt32 = (16 : Int32) from by rw [hez]; rfl)]
      show Steps p.tables e below (T5.setTop (mkF m 9 #[.val (.ref a1)] [(.int (16 : Int32)), (.int (0 : Int32))])) _
      refine XS.icmpYes X5.here hx rfl (pc0 := 9) (pc' := 30) rfl (hb hby d10_9) rfl (feq (by decide)).2 (by decide) (by decide) ?_
      show Steps p.tables e below (T5.setTop (mkF m 30 #[.val (.ref a1)] [])) _
      refine XS.aloadN X5.here hx rfl (hb hby d10_30) rfl rfl ?_
      exact k)
  obtain ⟨T8, X8, e8, st8⟩ := getF X5 hx hZ hown (host := "") (Or.inl (hw _ (List.mem_of_getElem? (i := 47) rfl))) Via.refl e5 F_ends_a1 (g := (mkF m 31 #[.val (.ref a1)] [(.ref a1)])) rfl rfl (hb hby d10_31)
  have J9 : ∀ t, Steps p.tables e below (T8.setTop (mkF m 34 #[.val (.ref a1)] [(.ref ea)])) t → Steps p.tables e below (s₁.setTop (entryFrame m #[(.ref a1)] 1)) t := fun t k => J7 t (st8 t k)
  have J10 : ∀ t, Steps p.tables e below (T8.setTop (mkF m 36 #[.val (.ref a1)] [(.ref a1), (.ref a1), (.ref ea)])) t → Steps p.tables e below (s₁.setTop (entryFrame m #[(.ref a1)] 1)) t := fun t k => J9 t (by
      show Steps p.tables e below (T8.setTop (mkF m 34 #[.val (.ref a1)] [(.ref ea)])) _
      refine XS.aloadN X8.here hx rfl (hb hby d10_34) rfl rfl ?_
      show Steps p.tables e below (T8.setTop (mkF m 35 #[.val (.ref a1)] [(.ref a1), (.ref ea)])) _
      refine XS.dup X8.here hx rfl (hb hby d10_35) rfl rfl ?_
      exact k)
  obtain ⟨T11, X11, e11, st11⟩ := getF X8 hx hZ hown (host := "") (Or.inl (hw _ (List.mem_of_getElem? (i := 49) rfl))) Via.refl e8 F_size_a1 (g := (mkF m 36 #[.val (.ref a1)] [(.ref a1), (.ref a1), (.ref ea)])) rfl rfl (hb hby d10_36)
  have J12 : ∀ t, Steps p.tables e below (T11.setTop (mkF m 39 #[.val (.ref a1)] [(.int (0 : Int32)), (.ref a1), (.ref ea)])) t → Steps p.tables e below (s₁.setTop (entryFrame m #[(.ref a1)] 1)) t := fun t k => J10 t (st11 t k)
  have J13 : ∀ t, Steps p.tables e below (T11.setTop (mkF m 42 #[.val (.ref a1)] [(.int ((0 : Int32) + (1 : Int32))), (.ref a1), (.int (0 : Int32)), (.ref ea)])) t → Steps p.tables e below (s₁.setTop (entryFrame m #[(.ref a1)] 1)) t := fun t k => J12 t (by
      show Steps p.tables e below (T11.setTop (mkF m 39 #[.val (.ref a1)] [(.int (0 : Int32)), (.ref a1), (.ref ea)])) _
      refine XS.dupX1 X11.here hx rfl (hb hby d10_39) rfl rfl rfl ?_
      show Steps p.tables e below (T11.setTop (mkF m 40 #[.val (.ref a1)] [(.int (0 : Int32)), (.ref a1), (.int (0 : Int32)), (.ref ea)])) _
      refine XS.iconst X11.here hx rfl (hb hby d10_40) ?_
      show Steps p.tables e below (T11.setTop (mkF m 41 #[.val (.ref a1)] [(.int (1 : Int32)), (.int (0 : Int32)), (.ref a1), (.int (0 : Int32)), (.ref ea)])) _
      refine XS.iadd X11.here hx rfl (hb hby d10_41) rfl ?_
      exact k)
  have J14 : ∀ t, Steps p.tables e below (T11.setTop (mkF m 42 #[.val (.ref a1)] [(.int (1 : Int32)), (.ref a1), (.int (0 : Int32)), (.ref ea)])) t → Steps p.tables e below (s₁.setTop (entryFrame m #[(.ref a1)] 1)) t := fun t k => J13 t (by rw [(by decide : ((0 : Int32) + (1 : Int32)) = (1 : Int32))]; exact k)
  obtain ⟨T15, h15, X15, e15, W15, st15⟩ := putF X11 hx hZ hown (host := "") (Or.inl (hw _ (List.mem_of_getElem? (i := 49) rfl))) Via.refl e11 F_size_a1 E_a1 (Or.inl (hw _ (List.mem_of_getElem? (i := 50) rfl))) (hw _ (List.mem_of_getElem? (i := 1) rfl)) (ty := .int) (by decide) rfl rfl (g := (mkF m 42 #[.val (.ref a1)] [(.int (1 : Int32)), (.ref a1), (.int (0 : Int32)), (.ref ea)])) rfl rfl (hb hby d10_42)
  have J16 : ∀ t, Steps p.tables e below (T15.setTop (mkF m 45 #[.val (.ref a1)] [(.int (0 : Int32)), (.ref ea)])) t → Steps p.tables e below (s₁.setTop (entryFrame m #[(.ref a1)] 1)) t := fun t k => J14 t (st15 t k)
  have Z17 : n0 ≤ h15.size := Nat.le_trans Z0 (Keep.of_wr W15).1
  have KK18 : Keep h0 h15 [a1, ea] := (Keep.refl h0 [a1, ea]).wr W15 (Or.inl (List.mem_of_getElem? (i := 0) rfl))
  have N19 := Fr.snoc X15 N0 g_a1
  have Fw15 := F_size_a1.same W15
  have J20 : ∀ t, Steps p.tables e below (T15.setTop (mkF m 46 #[.val (.ref a1)] [(.ref a1), (.int (0 : Int32)), (.ref ea)])) t → Steps p.tables e below (s₁.setTop (entryFrame m #[(.ref a1)] 1)) t := fun t k => J16 t (by
      show Steps p.tables e below (T15.setTop (mkF m 45 #[.val (.ref a1)] [(.int (0 : Int32)), (.ref ea)])) _
      refine XS.aloadN X15.here hx rfl (hb hby d10_45) rfl rfl ?_
      exact k)
  have f21 := F_length_a1.other W15 (Or.inr (slot_ne (Or.inl (hw _ (List.mem_of_getElem? (i := 52) rfl))) (Or.inl (hw _ (List.mem_of_getElem? (i := 50) rfl))) (by decide) (t := .int) (t' := .int) (by decide) (by decide)))
  obtain ⟨T22, X22, e22, st22⟩ := getF X15 hx hZ hown (host := "") (Or.inl (hw _ (List.mem_of_getElem? (i := 51) rfl))) Via.refl e15 f21 (g := (mkF m 46 #[.val (.ref a1)] [(.ref a1), (.int (0 : Int32)), (.ref ea)])) rfl rfl (hb hby d10_46)
  have J23 : ∀ t, Steps p.tables e below (T22.setTop (mkF m 49 #[.val (.ref a1)] [(.int w), (.int (0 : Int32)), (.ref ea)])) t → Steps p.tables e below (s₁.setTop (entryFrame m #[(.ref a1)] 1)) t := fun t k => J20 t (st22 t k)
  have f24 := Ar_ea.other W15 (Ne.symm ne_a1_ea)
  obtain ⟨T25, h25, X25, e25, W25, st25⟩ := stI X22 hx hZ e22 f24 (j := (0 : Int32)) (own_in hez (by decide) (by decide)) (g := (mkF m 49 #[.val (.ref a1)] [(.int w), (.int (0 : Int32)), (.ref ea)])) rfl rfl (hb hby d10_49)
  have J26 : ∀ t, Steps p.tables e below (T25.setTop (mkF m 50 #[.val (.ref a1)] [])) t → Steps p.tables e below (s₁.setTop (entryFrame m #[(.ref a1)] 1)) t := fun t k => J23 t (st25 t k)
  have Z27 : n0 ≤ h25.size := Nat.le_trans Z17 (Keep.of_wr W25).1
  have KK28 : Keep h0 h25 [a1, ea] := KK18.wr W25 (Or.inl (List.mem_of_getElem? (i := 1) rfl))
  have N29 := Fr.snoc X25 N19 g_ea
  obtain ⟨cl25, hcl25⟩ : ∃ z, z = ecl.setSlot ((0 : Int32)).toNatClampNeg (.int w) := ⟨_, rfl⟩
  have Aw25 : Arr Z h25 ea cl25 .int := by rw [hcl25]; exact f24.same W25
  obtain ⟨fs, hr, hrun, hended, hW, hsame⟩ := X25.leave (v := none) (fun _ => rfl)
  have f30 := E_a1.wr W15
  have f31 := f30.wr W25
  have f32 := F_chars_a1.other W15 (Or.inr (slot_ne (Or.inl (hw _ (List.mem_of_getElem? (i := 46) rfl))) (Or.inl (hw _ (List.mem_of_getElem? (i := 50) rfl))) (by decide) (t := (.array .char)) (t' := .int) (by decide) (by decide)))
  have f33 := f32.other W25 (Or.inl ne_a1_ea)
  have f34 := F_line_a1.other W15 (Or.inr (slot_ne (Or.inl (hw _ (List.mem_of_getElem? (i := 42) rfl))) (Or.inl (hw _ (List.mem_of_getElem? (i := 50) rfl))) (by decide) (t := .int) (t' := .int) (by decide) (by decide)))
  have f35 := f34.other W25 (Or.inl ne_a1_ea)
  have f36 := F_ends_a1.other W15 (Or.inr (slot_ne (Or.inl (hw _ (List.mem_of_getElem? (i := 48) rfl))) (Or.inl (hw _ (List.mem_of_getElem? (i := 50) rfl))) (by decide) (t := (.array .int)) (t' := .int) (by decide) (by decide)))
  have f37 := f36.other W25 (Or.inl ne_a1_ea)
  have f38 := Fw15.other W25 (Or.inl ne_a1_ea)
  have f39 := f21.other W25 (Or.inl ne_a1_ea)
  refine ⟨_, _, J26 _ ?_, hrun, hended, _, _, rfl, ?_, ⟨_, rfl⟩, hW, hsame.mono (by decide) (by decide)⟩
  · show Steps p.tables e below (T25.setTop (mkF m 50 #[.val (.ref a1)] [])) _
    exact X25.returnOut hx Bd.returns (hb hby d10_50) hr
  · show Q10 Z a1 ea ecl w uc ul h0 n0 _ T25.heap _
    rw [e25]
    exact ⟨cl25, rfl, N29, KK28, f31, f33, f35, f37, f38, f39, Aw25, (own_ssz hcl25 hez), (own_same hcl25 (by decide) (by rw [hez]; decide))⟩
theorem d14_0 : decode jdk_22_method_1_code 0 = .ok (.aload_n 0, 1) := by decide +kernel
theorem d14_1 : decode jdk_22_method_1_code 1 = .ok (.invokespecial 1, 3) := by decide +kernel
theorem d14_4 : decode jdk_22_method_1_code 4 = .ok (.return_, 1) := by decide +kernel
theorem pn_14 : plainName "java/util/AbstractCollection" = true := by first | (simp [plainName, overriddenIn]; done) | decide +kernel
theorem ef_14_x (m : MethodId) (x0 : Addr) : entryFrame m #[(.ref x0)] 1 = mkF m 0 #[.val (.ref x0)] [] := by first | (simp [entryFrame, mkF, argsToLocals, Value.category]; done) | rfl
def Q14 (Z : State) (a1 : Addr) (h0 : Heap) (n0 : Nat) (v : Option Value) (h : Heap) (L : List Loc) : Prop := v = none ∧ Fr n0 L ∧ h = h0
set_option maxRecDepth 65536 in
set_option maxHeartbeats 40000000 in
theorem rm14 (l : Launch) (Z : State) (a0 : Array Value) (hw : ∀ d ∈ tables_1, d.before a0 Z = true) (ws : List Jvm.Cond) (a1 : Addr) (h0 : Heap) (n0 : Nat) (Z0 : n0 ≤ h0.size) :
    MetFree l (⟨"java/util/AbstractCollection", "<init>", "()V"⟩ : MethodName) (head1 (Jvm.Cond.code (⟨"java/util/AbstractCollection", "<init>", "()V"⟩ : MethodName) jdk_22_method_1_code 1 none :: ws) ({ frames := 1, cells := 0, slots := 0, locals := 12 } : Room)) (fun a U => a = #[(.ref a1)] ∧ Z.Warmed39 U.vm ∧ U.heap = h0) (fun _ _ _ _ _ => True) (fun _ U o U' => ∃ v L, o = .returned v ∧ Q14 Z a1 h0 n0 v U'.heap L ∧ FrameEnd U o U' L ({ frames := 1, cells := 0, slots := 0, locals := 12 } : Room).cells ({ frames := 1, cells := 0, slots := 0, locals := 12 } : Room).slots) := by
  refine MetFree.of_bodySF (plainFor_of_name pn_14) hisR ?_
  intro p e s m args below meth c s₁ Bd hml0 hP hK
  obtain ⟨rfl, hZ, hh⟩ := hP
  have hx := Bd.exec
  have hby := Bd.bytes
  have hml : c.maxLocals = 1 := hml0
  have hown : s.vm.findClass "java/util/AbstractCollection" = some m.cls := findClass_of_methodNamed Bd.named
  have hnm := (name_of_methodNamed Bd.named Bd.method).1
  have X0 : Stand p l e ({ frames := 1, cells := 0, slots := 0, locals := 12 } : Room) s m #[(.ref a1)] below meth c s₁ [] 0 0 := Stand.of_body Bd
  have e0 : s₁.heap = h0 := by rw [← hh, Bd.state]; rfl
  have N0 := Fr.nil n0
  have pre0 : ∀ t, Steps p.tables e below (s₁.setTop (mkF m 0 #[.val (.ref a1)] [])) t → Steps p.tables e below (s₁.setTop (entryFrame m #[(.ref a1)] 1)) t := fun t k => castTop (ef_14_x m a1) k
  have J1 : ∀ t, Steps p.tables e below (s₁.setTop (mkF m 1 #[.val (.ref a1)] [(.ref a1)])) t → Steps p.tables e below (s₁.setTop (entryFrame m #[(.ref a1)] 1)) t := fun t k => pre0 t (by
      show Steps p.tables e below (s₁.setTop (mkF m 0 #[.val (.ref a1)] [])) _
      refine XS.aloadN X0.here hx rfl (hb hby d14_0) rfl rfl ?_
      exact k)
  obtain ⟨T2, X2, e2, st2⟩ := initO X0 hx hZ hown (hw _ (List.mem_of_getElem? (i := 105) rfl)) (hw _ (List.mem_of_getElem? (i := 26) rfl)) (hw _ (List.mem_of_getElem? (i := 27) rfl)) e0 (g := (mkF m 1 #[.val (.ref a1)] [(.ref a1)])) rfl (by rw [hml]; rfl) rfl (hb hby d14_1) (by decide) (W := 0) (by show 2 * 0 + _ ≤ _; exact Nat.le_of_eq rfl) (by decide)
  have J3 : ∀ t, Steps p.tables e below (T2.setTop (mkF m 4 #[.val (.ref a1)] [])) t → Steps p.tables e below (s₁.setTop (entryFrame m #[(.ref a1)] 1)) t := fun t k => J1 t (st2 t k)
  obtain ⟨fs, hr, hrun, hended, hW, hsame⟩ := X2.leave (v := none) (fun _ => rfl)
  refine ⟨_, _, J3 _ ?_, hrun, hended, _, _, rfl, ?_, ⟨_, rfl⟩, hW, hsame.mono (by decide) (by decide)⟩
  · show Steps p.tables e below (T2.setTop (mkF m 4 #[.val (.ref a1)] [])) _
    exact X2.returnOut hx Bd.returns (hb hby d14_4) hr
  · show Q14 Z a1 h0 n0 _ T2.heap _
    rw [e2]
    exact ⟨rfl, N0, rfl⟩
theorem d13_0 : decode jdk_39_method_1_code 0 = .ok (.aload_n 0, 1) := by decide +kernel
theorem d13_1 : decode jdk_39_method_1_code 1 = .ok (.invokespecial 1, 3) := by decide +kernel
theorem pd_3 : parseMethodDescriptor "()V" = some ⟨[], none⟩ := by decide +kernel
theorem d13_4 : decode jdk_39_method_1_code 4 = .ok (.aload_n 0, 1) := by decide +kernel
theorem d13_5 : decode jdk_39_method_1_code 5 = .ok (.iconst 0, 1) := by decide +kernel
theorem d13_6 : decode jdk_39_method_1_code 6 = .ok (.putfield 7, 3) := by decide +kernel
theorem d13_9 : decode jdk_39_method_1_code 9 = .ok (.return_, 1) := by decide +kernel
theorem pn_13 : plainName "java/util/AbstractList" = true := by first | (simp [plainName, overriddenIn]; done) | decide +kernel
theorem ef_13_x (m : MethodId) (x0 : Addr) : entryFrame m #[(.ref x0)] 1 = mkF m 0 #[.val (.ref x0)] [] := by first | (simp [entryFrame, mkF, argsToLocals, Value.category]; done) | rfl
def Q13 (Z : State) (a1 : Addr) (u : Value) (u2 : Value) (w : Int32) (h0 : Heap) (n0 : Nat) (v : Option Value) (h : Heap) (L : List Loc) : Prop := v = none ∧ Fr n0 L ∧ Keep h0 h [a1] ∧ (Exa Z h a1 "java/util/ArrayList") ∧ (Fld Z h a1 "java/util/AbstractList" "modCount" "I" (.int (0 : Int32))) ∧ (Fld Z h a1 "java/util/ArrayList" "elementData" "[Ljava/lang/Object;" u2) ∧ (Fld Z h a1 "java/util/ArrayList" "size" "I" (.int w))
set_option maxRecDepth 65536 in
set_option maxHeartbeats 40000000 in
theorem rm13 (l : Launch) (Z : State) (a0 : Array Value) (hw : ∀ d ∈ tables_1, d.before a0 Z = true) (ws : List Jvm.Cond) (a1 : Addr) (u : Value) (u2 : Value) (w : Int32) (h0 : Heap) (n0 : Nat) (Z0 : n0 ≤ h0.size) (E_a1 : Exa Z h0 a1 "java/util/ArrayList") (g_a1 : n0 ≤ a1) (F_modCount_a1 : Fld Z h0 a1 "java/util/AbstractList" "modCount" "I" u) (F_elementData_a1 : Fld Z h0 a1 "java/util/ArrayList" "elementData" "[Ljava/lang/Object;" u2) (F_size_a1 : Fld Z h0 a1 "java/util/ArrayList" "size" "I" (.int w)) :
    MetFree l (⟨"java/util/AbstractList", "<init>", "()V"⟩ : MethodName) (head1 (Jvm.Cond.code (⟨"java/util/AbstractList", "<init>", "()V"⟩ : MethodName) jdk_39_method_1_code 1 none :: ws) ({ frames := 2, cells := 0, slots := 0, locals := 24 } : Room)) (fun a U => a = #[(.ref a1)] ∧ Z.Warmed39 U.vm ∧ U.heap = h0) (fun _ _ _ _ _ => True) (fun _ U o U' => ∃ v L, o = .returned v ∧ Q13 Z a1 u u2 w h0 n0 v U'.heap L ∧ FrameEnd U o U' L ({ frames := 2, cells := 0, slots := 0, locals := 24 } : Room).cells ({ frames := 2, cells := 0, slots := 0, locals := 24 } : Room).slots) := by
  refine MetFree.of_bodySF (plainFor_of_name pn_13) hisR ?_
  intro p e s m args below meth c s₁ Bd hml0 hP hK
  obtain ⟨rfl, hZ, hh⟩ := hP
  have hx := Bd.exec
  have hby := Bd.bytes
  have hml : c.maxLocals = 1 := hml0
  have hown : s.vm.findClass "java/util/AbstractList" = some m.cls := findClass_of_methodNamed Bd.named
  have hnm := (name_of_methodNamed Bd.named Bd.method).1
  have X0 : Stand p l e ({ frames := 2, cells := 0, slots := 0, locals := 24 } : Room) s m #[(.ref a1)] below meth c s₁ [] 0 0 := Stand.of_body Bd
  have e0 : s₁.heap = h0 := by rw [← hh, Bd.state]; rfl
  have N0 := Fr.nil n0
  have pre0 : ∀ t, Steps p.tables e below (s₁.setTop (mkF m 0 #[.val (.ref a1)] [])) t → Steps p.tables e below (s₁.setTop (entryFrame m #[(.ref a1)] 1)) t := fun t k => castTop (ef_13_x m a1) k
  have J1 : ∀ t, Steps p.tables e below (s₁.setTop (mkF m 1 #[.val (.ref a1)] [(.ref a1)])) t → Steps p.tables e below (s₁.setTop (entryFrame m #[(.ref a1)] 1)) t := fun t k => pre0 t (by
      show Steps p.tables e below (s₁.setTop (mkF m 0 #[.val (.ref a1)] [])) _
      refine XS.aloadN X0.here hx rfl (hb hby d13_0) rfl rfl ?_
      exact k)
  obtain ⟨_, _, ⟨T2, L2, k2, n2⟩, -, X2, ⟨Lc2, hQ2, l2, y2, z2⟩, st2⟩ := X0.specialBack hx (y := (⟨"java/util/AbstractCollection", "<init>", "()V"⟩ : MethodName)) rfl hown (mvT hZ (hw _ (List.mem_of_getElem? (i := 99) rfl))) (mvT hZ (hw _ (List.mem_of_getElem? (i := 100) rfl))) (mvT hZ (hw _ (List.mem_of_getElem? (i := 104) rfl))) (by decide) (backOf (W := 0) (rm14 l Z a0 hw [] a1 h0 n0 Z0 ) hZ (hw _ (List.mem_of_getElem? (i := 104) rfl)) (hw _ (List.mem_of_getElem? (i := 103) rfl)) (by decide) (by decide)) (g := (mkF m 1 #[.val (.ref a1)] [(.ref a1)])) rfl (by rw [hml]; rfl) (Steps.refl _) (a := a1) (argsL := []) (rest := []) (lenOf pd_3 rfl) rfl (by show 2 * 0 + _ ≤ _; exact Nat.le_of_eq rfl) (hb hby d13_1) (fun _ _ => ⟨rfl, e0, (by decide : 0 + 0 ≤ _), (by decide : 0 + 0 ≤ _)⟩)
  dsimp only [Pt.U, Pt.locs, Pt.cells, Pt.slots] at X2 l2 y2 z2 st2 hQ2
  subst y2 z2
  obtain ⟨rfl, Nq2, e2⟩ := hQ2
  have N3 : Fr n0 L2 := by rw [l2]; exact Fr.app N0 Nq2
  have J4 : ∀ t, Steps p.tables e below (T2.setTop (mkF m 4 #[.val (.ref a1)] [])) t → Steps p.tables e below (s₁.setTop (entryFrame m #[(.ref a1)] 1)) t := fun t k => J1 t (st2.trans k)
  have J5 : ∀ t, Steps p.tables e below (T2.setTop (mkF m 6 #[.val (.ref a1)] [(.int (0 : Int32)), (.ref a1)])) t → Steps p.tables e below (s₁.setTop (entryFrame m #[(.ref a1)] 1)) t := fun t k => J4 t (by
      show Steps p.tables e below (T2.setTop (mkF m 4 #[.val (.ref a1)] [])) _
      refine XS.aloadN X2.here hx rfl (hb hby d13_4) rfl rfl ?_
      show Steps p.tables e below (T2.setTop (mkF m 5 #[.val (.ref a1)] [(.ref a1)])) _
      refine XS.iconst X2.here hx rfl (hb hby d13_5) ?_
      exact k)
  obtain ⟨T6, h6, X6, e6, W6, st6⟩ := putF X2 hx hZ hown (host := "") (Or.inl (hw _ (List.mem_of_getElem? (i := 106) rfl))) Via.refl e2 F_modCount_a1 E_a1 (Or.inl (hw _ (List.mem_of_getElem? (i := 107) rfl))) (hw _ (List.mem_of_getElem? (i := 88) rfl)) (ty := .int) (by decide) rfl rfl (g := (mkF m 6 #[.val (.ref a1)] [(.int (0 : Int32)), (.ref a1)])) rfl rfl (hb hby d13_6)
  have J7 : ∀ t, Steps p.tables e below (T6.setTop (mkF m 9 #[.val (.ref a1)] [])) t → Steps p.tables e below (s₁.setTop (entryFrame m #[(.ref a1)] 1)) t := fun t k => J5 t (st6 t k)
  have Z8 : n0 ≤ h6.size := Nat.le_trans Z0 (Keep.of_wr W6).1
  have KK9 : Keep h0 h6 [a1] := (Keep.refl h0 [a1]).wr W6 (Or.inl (List.mem_of_getElem? (i := 0) rfl))
  have N10 := Fr.snoc X6 N3 g_a1
  have Fw6 := F_modCount_a1.same W6
  obtain ⟨fs, hr, hrun, hended, hW, hsame⟩ := X6.leave (v := none) (fun _ => rfl)
  have f11 := E_a1.wr W6
  have f12 := F_elementData_a1.other W6 (Or.inr (slot_ne (Or.inl (hw _ (List.mem_of_getElem? (i := 111) rfl))) (Or.inl (hw _ (List.mem_of_getElem? (i := 107) rfl))) (by decide) (t := (.array (.object "java/lang/Object"))) (t' := .int) (by decide) (by decide)))
  have f13 := F_size_a1.other W6 (Or.inr (slot_ne (Or.inl (hw _ (List.mem_of_getElem? (i := 157) rfl))) (Or.inl (hw _ (List.mem_of_getElem? (i := 107) rfl))) (by decide) (t := .int) (t' := .int) (by decide) (by decide)))
  refine ⟨_, _, J7 _ ?_, hrun, hended, _, _, rfl, ?_, ⟨_, rfl⟩, hW, hsame.mono (by decide) (by decide)⟩
  · show Steps p.tables e below (T6.setTop (mkF m 9 #[.val (.ref a1)] [])) _
    exact X6.returnOut hx Bd.returns (hb hby d13_9) hr
  · show Q13 Z a1 u u2 w h0 n0 _ T6.heap _
    rw [e6]
    exact ⟨rfl, N10, KK9, f11, Fw6, f12, f13⟩
theorem d12_0 : decode jdk_38_method_1_code 0 = .ok (.aload_n 0, 1) := by decide +kernel
theorem d12_1 : decode jdk_38_method_1_code 1 = .ok (.invokespecial 1, 3) := by decide +kernel
theorem d12_4 : decode jdk_38_method_1_code 4 = .ok (.iload_n 1, 1) := by decide +kernel
theorem d12_5 : decode jdk_38_method_1_code 5 = .ok (.ifCond .le 14, 3) := by decide +kernel
theorem d12_8 : decode jdk_38_method_1_code 8 = .ok (.aload_n 0, 1) := by decide +kernel
theorem d12_9 : decode jdk_38_method_1_code 9 = .ok (.iload_n 1, 1) := by decide +kernel
theorem d12_10 : decode jdk_38_method_1_code 10 = .ok (.anewarray 7, 3) := by decide +kernel
theorem d12_13 : decode jdk_38_method_1_code 13 = .ok (.putfield 9, 3) := by decide +kernel
theorem d12_16 : decode jdk_38_method_1_code 16 = .ok (.goto 44, 3) := by decide +kernel
theorem d12_60 : decode jdk_38_method_1_code 60 = .ok (.return_, 1) := by decide +kernel
theorem pn_12 : plainName "java/util/ArrayList" = true := by first | (simp [plainName, overriddenIn]; done) | decide +kernel
theorem ef_12_xx (m : MethodId) (x0 : Addr) (x1 : Int32) : entryFrame m #[(.ref x0), (.int x1)] 2 = mkF m 0 #[.val (.ref x0), .val (.int x1)] [] := by first | (simp [entryFrame, mkF, argsToLocals, Value.category]; done) | rfl
def Q12 (Z : State) (a1 : Addr) (u : Value) (u2 : Value) (w : Int32) (h0 : Heap) (n0 : Nat) (v : Option Value) (h : Heap) (L : List Loc) : Prop := ∃ (el : Addr) (lcl : Cell), v = none ∧ Fr n0 L ∧ Keep h0 h [a1] ∧ (Exa Z h a1 "java/util/ArrayList") ∧ (Fld Z h a1 "java/util/AbstractList" "modCount" "I" (.int (0 : Int32))) ∧ (Fld Z h a1 "java/util/ArrayList" "elementData" "[Ljava/lang/Object;" (.ref el)) ∧ (Fld Z h a1 "java/util/ArrayList" "size" "I" (.int w)) ∧ (Arr Z h el lcl (.object "java/lang/Object")) ∧ (n0 ≤ el) ∧ (Ovr Z lcl.cls "java/lang/Object") ∧ (lcl.slots.size = 1) ∧ (h0.size ≤ el)
set_option maxRecDepth 65536 in
set_option maxHeartbeats 40000000 in
theorem rm12 (l : Launch) (Z : State) (a0 : Array Value) (hw : ∀ d ∈ tables_1, d.before a0 Z = true) (ws : List Jvm.Cond) (a1 : Addr) (u : Value) (u2 : Value) (w : Int32) (h0 : Heap) (n0 : Nat) (Z0 : n0 ≤ h0.size) (E_a1 : Exa Z h0 a1 "java/util/ArrayList") (g_a1 : n0 ≤ a1) (F_modCount_a1 : Fld Z h0 a1 "java/util/AbstractList" "modCount" "I" u) (F_elementData_a1 : Fld Z h0 a1 "java/util/ArrayList" "elementData" "[Ljava/lang/Object;" u2) (F_size_a1 : Fld Z h0 a1 "java/util/ArrayList" "size" "I" (.int w)) :
    MetFree l (⟨"java/util/ArrayList", "<init>", "(I)V"⟩ : MethodName) (head1 (Jvm.Cond.code (⟨"java/util/ArrayList", "<init>", "(I)V"⟩ : MethodName) jdk_38_method_1_code 2 none :: ws) ({ frames := 3, cells := 1, slots := 1, locals := 36 } : Room)) (fun a U => a = #[(.ref a1), (.int (1 : Int32))] ∧ Z.Warmed39 U.vm ∧ U.heap = h0) (fun _ _ _ _ _ => True) (fun _ U o U' => ∃ v L, o = .returned v ∧ Q12 Z a1 u u2 w h0 n0 v U'.heap L ∧ FrameEnd U o U' L ({ frames := 3, cells := 1, slots := 1, locals := 36 } : Room).cells ({ frames := 3, cells := 1, slots := 1, locals := 36 } : Room).slots) := by
  refine MetFree.of_bodySF (plainFor_of_name pn_12) hisR ?_
  intro p e s m args below meth c s₁ Bd hml0 hP hK
  obtain ⟨rfl, hZ, hh⟩ := hP
  have hx := Bd.exec
  have hby := Bd.bytes
  have hml : c.maxLocals = 2 := hml0
  have hown : s.vm.findClass "java/util/ArrayList" = some m.cls := findClass_of_methodNamed Bd.named
  have hnm := (name_of_methodNamed Bd.named Bd.method).1
  have X0 : Stand p l e ({ frames := 3, cells := 1, slots := 1, locals := 36 } : Room) s m #[(.ref a1), (.int (1 : Int32))] below meth c s₁ [] 0 0 := Stand.of_body Bd
  have e0 : s₁.heap = h0 := by rw [← hh, Bd.state]; rfl
  have N0 := Fr.nil n0
  have pre0 : ∀ t, Steps p.tables e below (s₁.setTop (mkF m 0 #[.val (.ref a1), .val (.int (1 : Int32))] [])) t → Steps p.tables e below (s₁.setTop (entryFrame m #[(.ref a1), (.int (1 : Int32))] 2)) t := fun t k => castTop (ef_12_xx m a1 (1 : Int32)) k
  have J1 : ∀ t, Steps p.tables e below (s₁.setTop (mkF m 1 #[.val (.ref a1), .val (.int (1 : Int32))] [(.ref a1)])) t → Steps p.tables e below (s₁.setTop (entryFrame m #[(.ref a1), (.int (1 : Int32))] 2)) t := fun t k => pre0 t (by
      show Steps p.tables e below (s₁.setTop (mkF m 0 #[.val (.ref a1), .val (.int (1 : Int32))] [])) _
      refine XS.aloadN X0.here hx rfl (hb hby d12_0) rfl rfl ?_
      exact k)
  obtain ⟨_, _, ⟨T2, L2, k2, n2⟩, -, X2, ⟨Lc2, hQ2, l2, y2, z2⟩, st2⟩ := X0.specialBack hx (y := (⟨"java/util/AbstractList", "<init>", "()V"⟩ : MethodName)) rfl hown (mvT hZ (hw _ (List.mem_of_getElem? (i := 93) rfl))) (mvT hZ (hw _ (List.mem_of_getElem? (i := 94) rfl))) (mvT hZ (hw _ (List.mem_of_getElem? (i := 98) rfl))) (by decide) (backOf (W := 0) (rm13 l Z a0 hw [] a1 u u2 w h0 n0 Z0 E_a1 g_a1 F_modCount_a1 F_elementData_a1 F_size_a1) hZ (hw _ (List.mem_of_getElem? (i := 98) rfl)) (hw _ (List.mem_of_getElem? (i := 97) rfl)) (by decide) (by decide)) (g := (mkF m 1 #[.val (.ref a1), .val (.int (1 : Int32))] [(.ref a1)])) rfl (by rw [hml]; rfl) (Steps.refl _) (a := a1) (argsL := []) (rest := []) (lenOf pd_3 rfl) rfl (by show 2 * 0 + _ ≤ _; exact Nat.le_of_eq rfl) (hb hby d12_1) (fun _ _ => ⟨rfl, e0, (by decide : 0 + 0 ≤ _), (by decide : 0 + 0 ≤ _)⟩)
  dsimp only [Pt.U, Pt.locs, Pt.cells, Pt.slots] at X2 l2 y2 z2 st2 hQ2
  subst y2 z2
  obtain ⟨rfl, Nq2, K2, p2_1, p2_2, p2_3, p2_4⟩ := hQ2
  have N3 : Fr n0 L2 := by rw [l2]; exact Fr.app N0 Nq2
  have J4 : ∀ t, Steps p.tables e below (T2.setTop (mkF m 4 #[.val (.ref a1), .val (.int (1 : Int32))] [])) t → Steps p.tables e below (s₁.setTop (entryFrame m #[(.ref a1), (.int (1 : Int32))] 2)) t := fun t k => J1 t (st2.trans k)
  have Z5 : n0 ≤ T2.heap.size := Nat.le_trans Z0 K2.1
  have KK6 : Keep h0 T2.heap [a1] := (Keep.refl h0 [a1]).trans K2 (allS (Or.inl (List.mem_of_getElem? (i := 0) rfl)) all0)
  have J7 : ∀ t, Steps p.tables e below (T2.setTop (mkF m 10 #[.val (.ref a1), .val (.int (1 : Int32))] [(.int (1 : Int32)), (.ref a1)])) t → Steps p.tables e below (s₁.setTop (entryFrame m #[(.ref a1), (.int (1 : Int32))] 2)) t := fun t k => J4 t (by
      show Steps p.tables e below (T2.setTop (mkF m 4 #[.val (.ref a1), .val (.int (1 : Int32))] [])) _
      refine XS.iloadN X2.here hx rfl (hb hby d12_4) rfl ?_
      show Steps p.tables e below (T2.setTop (mkF m 5 #[.val (.ref a1), .val (.int (1 : Int32))] [(.int (1 : Int32))])) _
      refine XS.ifNo X2.here hx rfl (hb hby d12_5) rfl ((if0 _ _).trans (tlt (by decide)).2.2.2) ?_
      show Steps p.tables e below (T2.setTop (mkF m 8 #[.val (.ref a1), .val (.int (1 : Int32))] [])) _
      refine XS.aloadN X2.here hx rfl (hb hby d12_8) rfl rfl ?_
      show Steps p.tables e below (T2.setTop (mkF m 9 #[.val (.ref a1), .val (.int (1 : Int32))] [(.ref a1)])) _
      refine XS.iloadN X2.here hx rfl (hb hby d12_9) rfl ?_
      exact k)
  obtain ⟨T8, h8, k8, X8, e8, E8, A8, O8, st8⟩ := newR X2 hx hZ hown (hw _ (List.mem_of_getElem? (i := 108) rfl)) (hw _ (List.mem_of_getElem? (i := 109) rfl)) rfl (g := (mkF m 10 #[.val (.ref a1), .val (.int (1 : Int32))] [(.int (1 : Int32)), (.ref a1)])) rfl (hb hby d12_10) rfl (by decide) (cap := 1) (by decide) (by decide) (by decide) (by decide)
  obtain ⟨b8, g8⟩ : ∃ z, z = T2.heap.size := ⟨_, rfl⟩
  rw [← g8] at A8 st8
  obtain ⟨cl8, hcl8⟩ : ∃ z, z = newA k8 (.object "java/lang/Object") (1 : Int32) := ⟨_, rfl⟩
  have Aw8 : Arr Z h8 b8 cl8 (.object "java/lang/Object") := by rw [hcl8]; exact A8
  have Ov8 : Ovr Z cl8.cls "java/lang/Object" := by rw [hcl8]; exact O8
  have J9 : ∀ t, Steps p.tables e below (T8.setTop (mkF m 13 #[.val (.ref a1), .val (.int (1 : Int32))] [(.ref b8), (.ref a1)])) t → Steps p.tables e below (s₁.setTop (entryFrame m #[(.ref a1), (.int (1 : Int32))] 2)) t := fun t k => J7 t (st8 t k)
  have ne10 : a1 ≠ b8 := Nat.ne_of_lt (Nat.lt_of_lt_of_le p2_1.lt (Nat.le_of_eq g8.symm))
  have ge11 : n0 ≤ b8 := Nat.le_trans Z5 (Nat.le_of_eq g8.symm)
  have sz12 : h0.size ≤ b8 := Nat.le_trans KK6.1 (Nat.le_of_eq g8.symm)
  have Z13 : n0 ≤ h8.size := Nat.le_trans Z5 E8.1
  have KK14 : Keep h0 h8 [a1] := KK6.ext E8
  have f15 := p2_3.ext E8
  have f16 := p2_1.ext E8
  obtain ⟨T17, h17, X17, e17, W17, st17⟩ := putF X8 hx hZ hown (host := "") (Or.inl (hw _ (List.mem_of_getElem? (i := 110) rfl))) Via.refl e8 f15 f16 (Or.inl (hw _ (List.mem_of_getElem? (i := 111) rfl))) (hw _ (List.mem_of_getElem? (i := 88) rfl)) (ty := (.array (.object "java/lang/Object"))) (by decide) rfl rfl (g := (mkF m 13 #[.val (.ref a1), .val (.int (1 : Int32))] [(.ref b8), (.ref a1)])) rfl rfl (hb hby d12_13)
  have J18 : ∀ t, Steps p.tables e below (T17.setTop (mkF m 16 #[.val (.ref a1), .val (.int (1 : Int32))] [])) t → Steps p.tables e below (s₁.setTop (entryFrame m #[(.ref a1), (.int (1 : Int32))] 2)) t := fun t k => J9 t (st17 t k)
  have Z19 : n0 ≤ h17.size := Nat.le_trans Z13 (Keep.of_wr W17).1
  have KK20 : Keep h0 h17 [a1] := KK14.wr W17 (Or.inl (List.mem_of_getElem? (i := 0) rfl))
  have N21 := Fr.snoc X17 N3 g_a1
  have Fw17 := f15.same W17
  have J22 : ∀ t, Steps p.tables e below (T17.setTop (mkF m 60 #[.val (.ref a1), .val (.int (1 : Int32))] [])) t → Steps p.tables e below (s₁.setTop (entryFrame m #[(.ref a1), (.int (1 : Int32))] 2)) t := fun t k => J18 t (by
      show Steps p.tables e below (T17.setTop (mkF m 16 #[.val (.ref a1), .val (.int (1 : Int32))] [])) _
      refine XS.goto X17.here hx rfl (pc0 := 16) (pc' := 60) rfl (hb hby d12_16) (by decide) (by decide) ?_
      exact k)
  obtain ⟨fs, hr, hrun, hended, hW, hsame⟩ := X17.leave (v := none) (fun _ => rfl)
  have f23 := f16.wr W17
  have f24 := p2_2.ext E8
  have f25 := f24.other W17 (Or.inr (slot_ne (Or.inl (hw _ (List.mem_of_getElem? (i := 107) rfl))) (Or.inl (hw _ (List.mem_of_getElem? (i := 111) rfl))) (by decide) (t := .int) (t' := (.array (.object "java/lang/Object"))) (by decide) (by decide)))
  have f26 := p2_4.ext E8
  have f27 := f26.other W17 (Or.inr (slot_ne (Or.inl (hw _ (List.mem_of_getElem? (i := 157) rfl))) (Or.inl (hw _ (List.mem_of_getElem? (i := 111) rfl))) (by decide) (t := .int) (t' := (.array (.object "java/lang/Object"))) (by decide) (by decide)))
  have f28 := Aw8.other W17 (Ne.symm ne10)
  refine ⟨_, _, J22 _ ?_, hrun, hended, _, _, rfl, ?_, ⟨_, rfl⟩, hW, hsame.mono (by decide) (by decide)⟩
  · show Steps p.tables e below (T17.setTop (mkF m 60 #[.val (.ref a1), .val (.int (1 : Int32))] [])) _
    exact X17.returnOut hx Bd.returns (hb hby d12_60) hr
  · show Q12 Z a1 u u2 w h0 n0 _ T17.heap _
    rw [e17]
    exact ⟨b8, cl8, rfl, N21, KK20, f23, f25, Fw17, f27, f28, ge11, Ov8, (by rw [hcl8, sz_new]; decide), sz12⟩
theorem d24_0 : decode jdk_38_method_24_code 0 = .ok (.iload_n 3, 1) := by decide +kernel
theorem d24_1 : decode jdk_38_method_24_code 1 = .ok (.aload_n 2, 1) := by decide +kernel
theorem d24_2 : decode jdk_38_method_24_code 2 = .ok (.arraylength, 1) := by decide +kernel
theorem d24_3 : decode jdk_38_method_24_code 3 = .ok (.if_icmp .ne 8, 3) := by decide +kernel
theorem d24_11 : decode jdk_38_method_24_code 11 = .ok (.aload_n 2, 1) := by decide +kernel
theorem d24_12 : decode jdk_38_method_24_code 12 = .ok (.iload_n 3, 1) := by decide +kernel
theorem d24_13 : decode jdk_38_method_24_code 13 = .ok (.aload_n 1, 1) := by decide +kernel
theorem d24_14 : decode jdk_38_method_24_code 14 = .ok (.aastore, 1) := by decide +kernel
theorem d24_15 : decode jdk_38_method_24_code 15 = .ok (.aload_n 0, 1) := by decide +kernel
theorem d24_16 : decode jdk_38_method_24_code 16 = .ok (.iload_n 3, 1) := by decide +kernel
theorem d24_17 : decode jdk_38_method_24_code 17 = .ok (.iconst 1, 1) := by decide +kernel
theorem d24_18 : decode jdk_38_method_24_code 18 = .ok (.iadd, 1) := by decide +kernel
theorem d24_19 : decode jdk_38_method_24_code 19 = .ok (.putfield 48, 3) := by decide +kernel
theorem d24_22 : decode jdk_38_method_24_code 22 = .ok (.return_, 1) := by decide +kernel
theorem pn_24 : plainName "java/util/ArrayList" = true := by first | (simp [plainName, overriddenIn]; done) | decide +kernel
theorem ef_24_xxxx (m : MethodId) (x0 : Addr) (x1 : Addr) (x2 : Addr) (x3 : Int32) : entryFrame m #[(.ref x0), (.ref x1), (.ref x2), (.int x3)] 4 = mkF m 0 #[.val (.ref x0), .val (.ref x1), .val (.ref x2), .val (.int x3)] [] := by first | (simp [entryFrame, mkF, argsToLocals, Value.category]; done) | rfl
def Q24 (Z : State) (a1 : Addr) (x : Addr) (el : Addr) (lcl : Cell) (h0 : Heap) (n0 : Nat) (v : Option Value) (h : Heap) (L : List Loc) : Prop := ∃ (lcl' : Cell), v = none ∧ Fr n0 L ∧ Keep h0 h [a1, el] ∧ (Exa Z h a1 "java/util/ArrayList") ∧ (Fld Z h a1 "java/util/ArrayList" "elementData" "[Ljava/lang/Object;" (.ref el)) ∧ (Fld Z h a1 "java/util/ArrayList" "size" "I" (.int (1 : Int32))) ∧ (Arr Z h el lcl' (.object "java/lang/Object")) ∧ (lcl'.slots[0]? = some (.ref x)) ∧ (lcl'.slots.size = 1)
set_option maxRecDepth 65536 in
set_option maxHeartbeats 40000000 in
theorem rm24 (l : Launch) (Z : State) (a0 : Array Value) (hw : ∀ d ∈ tables_1, d.before a0 Z = true) (ws : List Jvm.Cond) (a1 : Addr) (x : Addr) (el : Addr) (lcl : Cell) (h0 : Heap) (n0 : Nat) (Z0 : n0 ≤ h0.size) (E_a1 : Exa Z h0 a1 "java/util/ArrayList") (g_a1 : n0 ≤ a1) (Ar_el : Arr Z h0 el lcl (.object "java/lang/Object")) (g_el : n0 ≤ el) (Ov : Ovr Z lcl.cls "java/lang/Object") (hs : lcl.slots.size = 1) (E_x : Exa Z h0 x "java/lang/String") (ne_el_a1 : el ≠ a1) (ne_x_a1 : x ≠ a1) (ne_x_el : x ≠ el) (F_elementData_a1 : Fld Z h0 a1 "java/util/ArrayList" "elementData" "[Ljava/lang/Object;" (.ref el)) (F_size_a1 : Fld Z h0 a1 "java/util/ArrayList" "size" "I" (.int (0 : Int32))) :
    MetFree l (⟨"java/util/ArrayList", "add", "(Ljava/lang/Object;[Ljava/lang/Object;I)V"⟩ : MethodName) (head1 (Jvm.Cond.code (⟨"java/util/ArrayList", "add", "(Ljava/lang/Object;[Ljava/lang/Object;I)V"⟩ : MethodName) jdk_38_method_24_code 4 none :: ws) ({ frames := 0, cells := 0, slots := 0, locals := 0 } : Room)) (fun a U => a = #[(.ref a1), (.ref x), (.ref el), (.int (0 : Int32))] ∧ Z.Warmed39 U.vm ∧ U.heap = h0) (fun _ _ _ _ _ => True) (fun _ U o U' => ∃ v L, o = .returned v ∧ Q24 Z a1 x el lcl h0 n0 v U'.heap L ∧ FrameEnd U o U' L ({ frames := 0, cells := 0, slots := 0, locals := 0 } : Room).cells ({ frames := 0, cells := 0, slots := 0, locals := 0 } : Room).slots) := by
  refine MetFree.of_bodySF (plainFor_of_name pn_24) hisR ?_
  intro p e s m args below meth c s₁ Bd hml0 hP hK
  obtain ⟨rfl, hZ, hh⟩ := hP
  have hx := Bd.exec
  have hby := Bd.bytes
  have hml : c.maxLocals = 4 := hml0
  have hown : s.vm.findClass "java/util/ArrayList" = some m.cls := findClass_of_methodNamed Bd.named
  have hnm := (name_of_methodNamed Bd.named Bd.method).1
  have X0 : Stand p l e ({ frames := 0, cells := 0, slots := 0, locals := 0 } : Room) s m #[(.ref a1), (.ref x), (.ref el), (.int (0 : Int32))] below meth c s₁ [] 0 0 := Stand.of_body Bd
  have e0 : s₁.heap = h0 := by rw [← hh, Bd.state]; rfl
  have N0 := Fr.nil n0
  have pre0 : ∀ t, Steps p.tables e below (s₁.setTop (mkF m 0 #[.val (.ref a1), .val (.ref x), .val (.ref el), .val (.int (0 : Int32))] [])) t → Steps p.tables e below (s₁.setTop (entryFrame m #[(.ref a1), (.ref x), (.ref el), (.int (0 : Int32))] 4)) t := fun t k => castTop (ef_24_xxxx m a1 x el (0 : Int32)) k
  have J1 : ∀ t, Steps p.tables e below (s₁.setTop (mkF m 14 #[.val (.ref a1), .val (.ref x), .val (.ref el), .val (.int (0 : Int32))] [(.ref x), (.int (0 : Int32)), (.ref el)])) t → Steps p.tables e below (s₁.setTop (entryFrame m #[(.ref a1), (.ref x), (.ref el), (.int (0 : Int32))] 4)) t := fun t k => pre0 t (by
      show Steps p.tables e below (s₁.setTop (mkF m 0 #[.val (.ref a1), .val (.ref x), .val (.ref el), .val (.int (0 : Int32))] [])) _
      refine XS.iloadN X0.here hx rfl (hb hby d24_0) rfl ?_
      show Steps p.tables e below (s₁.setTop (mkF m 1 #[.val (.ref a1), .val (.ref x), .val (.ref el), .val (.int (0 : Int32))] [(.int (0 : Int32))])) _
      refine XS.aloadN X0.here hx rfl (hb hby d24_1) rfl rfl ?_
      show Steps p.tables e below (s₁.setTop (mkF m 2 #[.val (.ref a1), .val (.ref x), .val (.ref el), .val (.int (0 : Int32))] [(.ref el), (.int (0 : Int32))])) _
      refine X0.arraylength hx (cell := lcl) (by rw [e0]; exact Ar_el.1) (State.isArrayOf_alike hZ.alike Ar_el.2.1) (g := (mkF m 2 #[.val (.ref a1), .val (.ref x), .val (.ref el), .val (.int (0 : Int32))] [(.ref el), (.int (0 : Int32))])) rfl (rest := [(.int (0 : Int32))]) rfl (hb hby d24_2) _ ?_
      rw [(show lcl.slots.size.toInt32 = (1 : Int32) from by rw [hs]; rfl)]
      show Steps p.tables e below (s₁.setTop (mkF m 3 #[.val (.ref a1), .val (.ref x), .val (.ref el), .val (.int (0 : Int32))] [(.int (1 : Int32)), (.int (0 : Int32))])) _
      refine XS.icmpYes X0.here hx rfl (pc0 := 3) (pc' := 11) rfl (hb hby d24_3) rfl (feq (by decide)).2 (by decide) (by decide) ?_
      show Steps p.tables e below (s₁.setTop (mkF m 11 #[.val (.ref a1), .val (.ref x), .val (.ref el), .val (.int (0 : Int32))] [])) _
      refine XS.aloadN X0.here hx rfl (hb hby d24_11) rfl rfl ?_
      show Steps p.tables e below (s₁.setTop (mkF m 12 #[.val (.ref a1), .val (.ref x), .val (.ref el), .val (.int (0 : Int32))] [(.ref el)])) _
      refine XS.iloadN X0.here hx rfl (hb hby d24_12) rfl ?_
      show Steps p.tables e below (s₁.setTop (mkF m 13 #[.val (.ref a1), .val (.ref x), .val (.ref el), .val (.int (0 : Int32))] [(.int (0 : Int32)), (.ref el)])) _
      refine XS.aloadN X0.here hx rfl (hb hby d24_13) rfl rfl ?_
      exact k)
  obtain ⟨T2, h2, X2, e2, W2, st2⟩ := stR X0 hx hZ e0 Ar_el (j := (0 : Int32)) (own_in hs (by decide) (by decide)) rfl (Sto.of Ar_el Ov (Ins.of_exa E_x (hw _ (List.mem_of_getElem? (i := 163) rfl)))) (g := (mkF m 14 #[.val (.ref a1), .val (.ref x), .val (.ref el), .val (.int (0 : Int32))] [(.ref x), (.int (0 : Int32)), (.ref el)])) rfl rfl (hb hby d24_14)
  have J3 : ∀ t, Steps p.tables e below (T2.setTop (mkF m 15 #[.val (.ref a1), .val (.ref x), .val (.ref el), .val (.int (0 : Int32))] [])) t → Steps p.tables e below (s₁.setTop (entryFrame m #[(.ref a1), (.ref x), (.ref el), (.int (0 : Int32))] 4)) t := fun t k => J1 t (st2 t k)
  have Z4 : n0 ≤ h2.size := Nat.le_trans Z0 (Keep.of_wr W2).1
  have KK5 : Keep h0 h2 [a1, el] := (Keep.refl h0 [a1, el]).wr W2 (Or.inl (List.mem_of_getElem? (i := 1) rfl))
  have N6 := Fr.snoc X2 N0 g_el
  obtain ⟨cl2, hcl2⟩ : ∃ z, z = lcl.setSlot ((0 : Int32)).toNatClampNeg (.ref x) := ⟨_, rfl⟩
  have Aw2 : Arr Z h2 el cl2 (.object "java/lang/Object") := by rw [hcl2]; exact Ar_el.same W2
  have J7 : ∀ t, Steps p.tables e below (T2.setTop (mkF m 19 #[.val (.ref a1), .val (.ref x), .val (.ref el), .val (.int (0 : Int32))] [(.int ((0 : Int32) + (1 : Int32))), (.ref a1)])) t → Steps p.tables e below (s₁.setTop (entryFrame m #[(.ref a1), (.ref x), (.ref el), (.int (0 : Int32))] 4)) t := fun t k => J3 t (by
      show Steps p.tables e below (T2.setTop (mkF m 15 #[.val (.ref a1), .val (.ref x), .val (.ref el), .val (.int (0 : Int32))] [])) _
      refine XS.aloadN X2.here hx rfl (hb hby d24_15) rfl rfl ?_
      show Steps p.tables e below (T2.setTop (mkF m 16 #[.val (.ref a1), .val (.ref x), .val (.ref el), .val (.int (0 : Int32))] [(.ref a1)])) _
      refine XS.iloadN X2.here hx rfl (hb hby d24_16) rfl ?_
      show Steps p.tables e below (T2.setTop (mkF m 17 #[.val (.ref a1), .val (.ref x), .val (.ref el), .val (.int (0 : Int32))] [(.int (0 : Int32)), (.ref a1)])) _
      refine XS.iconst X2.here hx rfl (hb hby d24_17) ?_
      show Steps p.tables e below (T2.setTop (mkF m 18 #[.val (.ref a1), .val (.ref x), .val (.ref el), .val (.int (0 : Int32))] [(.int (1 : Int32)), (.int (0 : Int32)), (.ref a1)])) _
      refine XS.iadd X2.here hx rfl (hb hby d24_18) rfl ?_
      exact k)
  have J8 : ∀ t, Steps p.tables e below (T2.setTop (mkF m 19 #[.val (.ref a1), .val (.ref x), .val (.ref el), .val (.int (0 : Int32))] [(.int (1 : Int32)), (.ref a1)])) t → Steps p.tables e below (s₁.setTop (entryFrame m #[(.ref a1), (.ref x), (.ref el), (.int (0 : Int32))] 4)) t := fun t k => J7 t (by rw [(by decide : ((0 : Int32) + (1 : Int32)) = (1 : Int32))]; exact k)
  have f9 := F_size_a1.other W2 (Or.inl (Ne.symm ne_el_a1))
  have f10 := E_a1.wr W2
  obtain ⟨T11, h11, X11, e11, W11, st11⟩ := putF X2 hx hZ hown (host := "") (Or.inl (hw _ (List.mem_of_getElem? (i := 156) rfl))) Via.refl e2 f9 f10 (Or.inl (hw _ (List.mem_of_getElem? (i := 157) rfl))) (hw _ (List.mem_of_getElem? (i := 88) rfl)) (ty := .int) (by decide) rfl rfl (g := (mkF m 19 #[.val (.ref a1), .val (.ref x), .val (.ref el), .val (.int (0 : Int32))] [(.int (1 : Int32)), (.ref a1)])) rfl rfl (hb hby d24_19)
  have J12 : ∀ t, Steps p.tables e below (T11.setTop (mkF m 22 #[.val (.ref a1), .val (.ref x), .val (.ref el), .val (.int (0 : Int32))] [])) t → Steps p.tables e below (s₁.setTop (entryFrame m #[(.ref a1), (.ref x), (.ref el), (.int (0 : Int32))] 4)) t := fun t k => J8 t (st11 t k)
  have Z13 : n0 ≤ h11.size := Nat.le_trans Z4 (Keep.of_wr W11).1
  have KK14 : Keep h0 h11 [a1, el] := KK5.wr W11 (Or.inl (List.mem_of_getElem? (i := 0) rfl))
  have N15 := Fr.snoc X11 N6 g_a1
  have Fw11 := f9.same W11
  obtain ⟨fs, hr, hrun, hended, hW, hsame⟩ := X11.leave (v := none) (fun _ => rfl)
  have f16 := f10.wr W11
  have f17 := F_elementData_a1.other W2 (Or.inl (Ne.symm ne_el_a1))
  have f18 := f17.other W11 (Or.inr (slot_ne (Or.inl (hw _ (List.mem_of_getElem? (i := 111) rfl))) (Or.inl (hw _ (List.mem_of_getElem? (i := 157) rfl))) (by decide) (t := (.array (.object "java/lang/Object"))) (t' := .int) (by decide) (by decide)))
  have f19 := Aw2.other W11 ne_el_a1
  refine ⟨_, _, J12 _ ?_, hrun, hended, _, _, rfl, ?_, ⟨_, rfl⟩, hW, hsame.mono (by decide) (by decide)⟩
  · show Steps p.tables e below (T11.setTop (mkF m 22 #[.val (.ref a1), .val (.ref x), .val (.ref el), .val (.int (0 : Int32))] [])) _
    exact X11.returnOut hx Bd.returns (hb hby d24_22) hr
  · show Q24 Z a1 x el lcl h0 n0 _ T11.heap _
    rw [e11]
    exact ⟨cl2, rfl, N15, KK14, f16, f18, Fw11, f19, (own_same hcl2 (by decide) (by rw [hs]; decide)), (own_ssz hcl2 hs)⟩
theorem d23_0 : decode jdk_38_method_25_code 0 = .ok (.aload_n 0, 1) := by decide +kernel
theorem d23_1 : decode jdk_38_method_25_code 1 = .ok (.dup, 1) := by decide +kernel
theorem d23_2 : decode jdk_38_method_25_code 2 = .ok (.getfield 63, 3) := by decide +kernel
theorem d23_5 : decode jdk_38_method_25_code 5 = .ok (.iconst 1, 1) := by decide +kernel
theorem d23_6 : decode jdk_38_method_25_code 6 = .ok (.iadd, 1) := by decide +kernel
theorem d23_7 : decode jdk_38_method_25_code 7 = .ok (.putfield 63, 3) := by decide +kernel
theorem d23_10 : decode jdk_38_method_25_code 10 = .ok (.aload_n 0, 1) := by decide +kernel
theorem d23_11 : decode jdk_38_method_25_code 11 = .ok (.aload_n 1, 1) := by decide +kernel
theorem d23_12 : decode jdk_38_method_25_code 12 = .ok (.aload_n 0, 1) := by decide +kernel
theorem d23_13 : decode jdk_38_method_25_code 13 = .ok (.getfield 9, 3) := by decide +kernel
theorem d23_16 : decode jdk_38_method_25_code 16 = .ok (.aload_n 0, 1) := by decide +kernel
theorem d23_17 : decode jdk_38_method_25_code 17 = .ok (.getfield 48, 3) := by decide +kernel
theorem d23_20 : decode jdk_38_method_25_code 20 = .ok (.invokevirtual 131, 3) := by decide +kernel
theorem pd_4 : parseMethodDescriptor "(Ljava/lang/Object;[Ljava/lang/Object;I)V" = some ⟨[(.object "java/lang/Object"), (.array (.object "java/lang/Object")), .int], none⟩ := by decide +kernel
theorem d23_23 : decode jdk_38_method_25_code 23 = .ok (.iconst 1, 1) := by decide +kernel
theorem d23_24 : decode jdk_38_method_25_code 24 = .ok (.ireturn, 1) := by decide +kernel
theorem pn_23 : plainName "java/util/ArrayList" = true := by first | (simp [plainName, overriddenIn]; done) | decide +kernel
theorem ef_23_xx (m : MethodId) (x0 : Addr) (x1 : Addr) : entryFrame m #[(.ref x0), (.ref x1)] 2 = mkF m 0 #[.val (.ref x0), .val (.ref x1)] [] := by first | (simp [entryFrame, mkF, argsToLocals, Value.category]; done) | rfl
def Q23 (Z : State) (a1 : Addr) (x : Addr) (el : Addr) (lcl : Cell) (w : Int32) (h0 : Heap) (n0 : Nat) (v : Option Value) (h : Heap) (L : List Loc) : Prop := ∃ (lcl' : Cell), v = some (.int (1 : Int32)) ∧ Fr n0 L ∧ Keep h0 h [a1, el] ∧ (Exa Z h a1 "java/util/ArrayList") ∧ (Fld Z h a1 "java/util/ArrayList" "elementData" "[Ljava/lang/Object;" (.ref el)) ∧ (Fld Z h a1 "java/util/ArrayList" "size" "I" (.int (1 : Int32))) ∧ (Arr Z h el lcl' (.object "java/lang/Object")) ∧ (lcl'.slots[0]? = some (.ref x)) ∧ (lcl'.slots.size = 1)
set_option maxRecDepth 65536 in
set_option maxHeartbeats 40000000 in
theorem rm23 (l : Launch) (Z : State) (a0 : Array Value) (hw : ∀ d ∈ tables_1, d.before a0 Z = true) (ws : List Jvm.Cond) (a1 : Addr) (x : Addr) (el : Addr) (lcl : Cell) (w : Int32) (h0 : Heap) (n0 : Nat) (Z0 : n0 ≤ h0.size) (E_a1 : Exa Z h0 a1 "java/util/ArrayList") (g_a1 : n0 ≤ a1) (Ar_el : Arr Z h0 el lcl (.object "java/lang/Object")) (g_el : n0 ≤ el) (Ov : Ovr Z lcl.cls "java/lang/Object") (hs : lcl.slots.size = 1) (E_x : Exa Z h0 x "java/lang/String") (ne_el_a1 : el ≠ a1) (ne_x_a1 : x ≠ a1) (ne_x_el : x ≠ el) (F_elementData_a1 : Fld Z h0 a1 "java/util/ArrayList" "elementData" "[Ljava/lang/Object;" (.ref el)) (F_size_a1 : Fld Z h0 a1 "java/util/ArrayList" "size" "I" (.int (0 : Int32))) (F_modCount_a1 : Fld Z h0 a1 "java/util/AbstractList" "modCount" "I" (.int w)) :
    MetFree l (⟨"java/util/ArrayList", "add", "(Ljava/lang/Object;)Z"⟩ : MethodName) (head1 (Jvm.Cond.code (⟨"java/util/ArrayList", "add", "(Ljava/lang/Object;)Z"⟩ : MethodName) jdk_38_method_25_code 2 (some .boolean) :: ws) ({ frames := 1, cells := 0, slots := 0, locals := 15 } : Room)) (fun a U => a = #[(.ref a1), (.ref x)] ∧ Z.Warmed39 U.vm ∧ U.heap = h0) (fun _ _ _ _ _ => True) (fun _ U o U' => ∃ v L, o = .returned v ∧ Q23 Z a1 x el lcl w h0 n0 v U'.heap L ∧ FrameEnd U o U' L ({ frames := 1, cells := 0, slots := 0, locals := 15 } : Room).cells ({ frames := 1, cells := 0, slots := 0, locals := 15 } : Room).slots) := by
  refine MetFree.of_bodySF (plainFor_of_name pn_23) hisR ?_
  intro p e s m args below meth c s₁ Bd hml0 hP hK
  obtain ⟨rfl, hZ, hh⟩ := hP
  have hx := Bd.exec
  have hby := Bd.bytes
  have hml : c.maxLocals = 2 := hml0
  have hown : s.vm.findClass "java/util/ArrayList" = some m.cls := findClass_of_methodNamed Bd.named
  have hnm := (name_of_methodNamed Bd.named Bd.method).1
  have X0 : Stand p l e ({ frames := 1, cells := 0, slots := 0, locals := 15 } : Room) s m #[(.ref a1), (.ref x)] below meth c s₁ [] 0 0 := Stand.of_body Bd
  have e0 : s₁.heap = h0 := by rw [← hh, Bd.state]; rfl
  have N0 := Fr.nil n0
  have pre0 : ∀ t, Steps p.tables e below (s₁.setTop (mkF m 0 #[.val (.ref a1), .val (.ref x)] [])) t → Steps p.tables e below (s₁.setTop (entryFrame m #[(.ref a1), (.ref x)] 2)) t := fun t k => castTop (ef_23_xx m a1 x) k
  have J1 : ∀ t, Steps p.tables e below (s₁.setTop (mkF m 2 #[.val (.ref a1), .val (.ref x)] [(.ref a1), (.ref a1)])) t → Steps p.tables e below (s₁.setTop (entryFrame m #[(.ref a1), (.ref x)] 2)) t := fun t k => pre0 t (by
      show Steps p.tables e below (s₁.setTop (mkF m 0 #[.val (.ref a1), .val (.ref x)] [])) _
      refine XS.aloadN X0.here hx rfl (hb hby d23_0) rfl rfl ?_
      show Steps p.tables e below (s₁.setTop (mkF m 1 #[.val (.ref a1), .val (.ref x)] [(.ref a1)])) _
      refine XS.dup X0.here hx rfl (hb hby d23_1) rfl rfl ?_
      exact k)
  obtain ⟨T2, X2, e2, st2⟩ := getF X0 hx hZ hown (host := "") (Or.inl (hw _ (List.mem_of_getElem? (i := 154) rfl))) (Via.of (hw _ (List.mem_of_getElem? (i := 155) rfl))) e0 F_modCount_a1 (g := (mkF m 2 #[.val (.ref a1), .val (.ref x)] [(.ref a1), (.ref a1)])) rfl rfl (hb hby d23_2)
  have J3 : ∀ t, Steps p.tables e below (T2.setTop (mkF m 5 #[.val (.ref a1), .val (.ref x)] [(.int w), (.ref a1)])) t → Steps p.tables e below (s₁.setTop (entryFrame m #[(.ref a1), (.ref x)] 2)) t := fun t k => J1 t (st2 t k)
  have J4 : ∀ t, Steps p.tables e below (T2.setTop (mkF m 7 #[.val (.ref a1), .val (.ref x)] [(.int (w + (1 : Int32))), (.ref a1)])) t → Steps p.tables e below (s₁.setTop (entryFrame m #[(.ref a1), (.ref x)] 2)) t := fun t k => J3 t (by
      show Steps p.tables e below (T2.setTop (mkF m 5 #[.val (.ref a1), .val (.ref x)] [(.int w), (.ref a1)])) _
      refine XS.iconst X2.here hx rfl (hb hby d23_5) ?_
      show Steps p.tables e below (T2.setTop (mkF m 6 #[.val (.ref a1), .val (.ref x)] [(.int (1 : Int32)), (.int w), (.ref a1)])) _
      refine XS.iadd X2.here hx rfl (hb hby d23_6) rfl ?_
      exact k)
  obtain ⟨T5, h5, X5, e5, W5, st5⟩ := putF X2 hx hZ hown (host := "") (Or.inl (hw _ (List.mem_of_getElem? (i := 154) rfl))) (Via.of (hw _ (List.mem_of_getElem? (i := 155) rfl))) e2 F_modCount_a1 E_a1 (Or.inl (hw _ (List.mem_of_getElem? (i := 107) rfl))) (hw _ (List.mem_of_getElem? (i := 88) rfl)) (ty := .int) (by decide) rfl rfl (g := (mkF m 7 #[.val (.ref a1), .val (.ref x)] [(.int (w + (1 : Int32))), (.ref a1)])) rfl rfl (hb hby d23_7)
  have J6 : ∀ t, Steps p.tables e below (T5.setTop (mkF m 10 #[.val (.ref a1), .val (.ref x)] [])) t → Steps p.tables e below (s₁.setTop (entryFrame m #[(.ref a1), (.ref x)] 2)) t := fun t k => J4 t (st5 t k)
  have Z7 : n0 ≤ h5.size := Nat.le_trans Z0 (Keep.of_wr W5).1
  have KK8 : Keep h0 h5 [a1, el] := (Keep.refl h0 [a1, el]).wr W5 (Or.inl (List.mem_of_getElem? (i := 0) rfl))
  have N9 := Fr.snoc X5 N0 g_a1
  have Fw5 := F_modCount_a1.same W5
  have J10 : ∀ t, Steps p.tables e below (T5.setTop (mkF m 13 #[.val (.ref a1), .val (.ref x)] [(.ref a1), (.ref x), (.ref a1)])) t → Steps p.tables e below (s₁.setTop (entryFrame m #[(.ref a1), (.ref x)] 2)) t := fun t k => J6 t (by
      show Steps p.tables e below (T5.setTop (mkF m 10 #[.val (.ref a1), .val (.ref x)] [])) _
      refine XS.aloadN X5.here hx rfl (hb hby d23_10) rfl rfl ?_
      show Steps p.tables e below (T5.setTop (mkF m 11 #[.val (.ref a1), .val (.ref x)] [(.ref a1)])) _
      refine XS.aloadN X5.here hx rfl (hb hby d23_11) rfl rfl ?_
      show Steps p.tables e below (T5.setTop (mkF m 12 #[.val (.ref a1), .val (.ref x)] [(.ref x), (.ref a1)])) _
      refine XS.aloadN X5.here hx rfl (hb hby d23_12) rfl rfl ?_
      exact k)
  have f11 := F_elementData_a1.other W5 (Or.inr (slot_ne (Or.inl (hw _ (List.mem_of_getElem? (i := 111) rfl))) (Or.inl (hw _ (List.mem_of_getElem? (i := 107) rfl))) (by decide) (t := (.array (.object "java/lang/Object"))) (t' := .int) (by decide) (by decide)))
  obtain ⟨T12, X12, e12, st12⟩ := getF X5 hx hZ hown (host := "") (Or.inl (hw _ (List.mem_of_getElem? (i := 110) rfl))) Via.refl e5 f11 (g := (mkF m 13 #[.val (.ref a1), .val (.ref x)] [(.ref a1), (.ref x), (.ref a1)])) rfl rfl (hb hby d23_13)
  have J13 : ∀ t, Steps p.tables e below (T12.setTop (mkF m 16 #[.val (.ref a1), .val (.ref x)] [(.ref el), (.ref x), (.ref a1)])) t → Steps p.tables e below (s₁.setTop (entryFrame m #[(.ref a1), (.ref x)] 2)) t := fun t k => J10 t (st12 t k)
  have J14 : ∀ t, Steps p.tables e below (T12.setTop (mkF m 17 #[.val (.ref a1), .val (.ref x)] [(.ref a1), (.ref el), (.ref x), (.ref a1)])) t → Steps p.tables e below (s₁.setTop (entryFrame m #[(.ref a1), (.ref x)] 2)) t := fun t k => J13 t (by
      show Steps p.tables e below (T12.setTop (mkF m 16 #[.val (.ref a1), .val (.ref x)] [(.ref el), (.ref x), (.ref a1)])) _
      refine XS.aloadN X12.here hx rfl (hb hby d23_16) rfl rfl ?_
      exact k)
  have f15 := F_size_a1.other W5 (Or.inr (slot_ne (Or.inl (hw _ (List.mem_of_getElem? (i := 157) rfl))) (Or.inl (hw _ (List.mem_of_getElem? (i := 107) rfl))) (by decide) (t := .int) (t' := .int) (by decide) (by decide)))
  obtain ⟨T16, X16, e16, st16⟩ := getF X12 hx hZ hown (host := "") (Or.inl (hw _ (List.mem_of_getElem? (i := 156) rfl))) Via.refl e12 f15 (g := (mkF m 17 #[.val (.ref a1), .val (.ref x)] [(.ref a1), (.ref el), (.ref x), (.ref a1)])) rfl rfl (hb hby d23_17)
  have J17 : ∀ t, Steps p.tables e below (T16.setTop (mkF m 20 #[.val (.ref a1), .val (.ref x)] [(.int (0 : Int32)), (.ref el), (.ref x), (.ref a1)])) t → Steps p.tables e below (s₁.setTop (entryFrame m #[(.ref a1), (.ref x)] 2)) t := fun t k => J14 t (st16 t k)
  have f18 := E_a1.wr W5
  have f19 := Ar_el.other W5 ne_el_a1
  have f20 := E_x.wr W5
  obtain ⟨cq21, q21, q21'⟩ := f18.cell
  obtain ⟨_, _, ⟨T21, L21, k21, n21⟩, -, X21, ⟨Lc21, hQ21, l21, y21, z21⟩, st21⟩ := X16.privateBack hx (y := (⟨"java/util/ArrayList", "add", "(Ljava/lang/Object;[Ljava/lang/Object;I)V"⟩ : MethodName)) hown (mvT hZ (hw _ (List.mem_of_getElem? (i := 158) rfl))) (mvT hZ (hw _ (List.mem_of_getElem? (i := 159) rfl))) (mvT hZ (hw _ (List.mem_of_getElem? (i := 161) rfl))) (Cond.privateMethod_at (mvP hZ (hw _ (List.mem_of_getElem? (i := 160) rfl)) (args := #[]))) (mvT hZ (hw _ (List.mem_of_getElem? (i := 162) rfl))) (by decide) (backOf (W := 0) (rm24 l Z a0 hw [] a1 x el lcl h5 n0 Z7 f18 g_a1 f19 g_el (by assumption) (by assumption) f20 ne_el_a1 ne_x_a1 ne_x_el f11 f15) hZ (hw _ (List.mem_of_getElem? (i := 162) rfl)) (hw _ (List.mem_of_getElem? (i := 89) rfl)) (by decide) (by decide)) (g := (mkF m 20 #[.val (.ref a1), .val (.ref x)] [(.int (0 : Int32)), (.ref el), (.ref x), (.ref a1)])) rfl (by rw [hml]; rfl) (Steps.refl _) (a := a1) (by rw [e16]; exact q21) q21' (argsL := [(.ref x), (.ref el), (.int (0 : Int32))]) (rest := []) (lenOf pd_4 rfl) rfl (by show 2 * 0 + _ ≤ _; exact Nat.le_of_eq rfl) (hb hby d23_20) (fun _ _ => ⟨rfl, e16, (by decide : 0 + 0 ≤ _), (by decide : 0 + 0 ≤ _)⟩)
  dsimp only [Pt.U, Pt.locs, Pt.cells, Pt.slots] at X21 l21 y21 z21 st21 hQ21
  subst y21 z21
  obtain ⟨lcl'_21, rfl, Nq21, K21, p21_1, p21_2, p21_3, p21_4, p21_5, p21_6⟩ := hQ21
  have N22 : Fr n0 L21 := by rw [l21]; exact Fr.app N9 Nq21
  have J23 : ∀ t, Steps p.tables e below (T21.setTop (mkF m 23 #[.val (.ref a1), .val (.ref x)] [])) t → Steps p.tables e below (s₁.setTop (entryFrame m #[(.ref a1), (.ref x)] 2)) t := fun t k => J17 t (st21.trans k)
  have Z24 : n0 ≤ T21.heap.size := Nat.le_trans Z7 K21.1
  have KK25 : Keep h0 T21.heap [a1, el] := KK8.trans K21 (allS (Or.inl (List.mem_of_getElem? (i := 0) rfl)) (allS (Or.inl (List.mem_of_getElem? (i := 1) rfl)) all0))
  have J26 : ∀ t, Steps p.tables e below (T21.setTop (mkF m 24 #[.val (.ref a1), .val (.ref x)] [(.int (1 : Int32))])) t → Steps p.tables e below (s₁.setTop (entryFrame m #[(.ref a1), (.ref x)] 2)) t := fun t k => J23 t (by
      show Steps p.tables e below (T21.setTop (mkF m 23 #[.val (.ref a1), .val (.ref x)] [])) _
      refine XS.iconst X21.here hx rfl (hb hby d23_23) ?_
      exact k)
  obtain ⟨fs, hr, hrun, hended, hW, hsame⟩ := X21.leave (v := some (.int (1 : Int32))) (fun h => by rw [Bd.returns] at h; cases h)
  refine ⟨_, _, J26 _ ?_, hrun, hended, _, _, rfl, ?_, ⟨_, rfl⟩, hW, hsame.mono (by decide) (by decide)⟩
  · show Steps p.tables e below (T21.setTop (mkF m 24 #[.val (.ref a1), .val (.ref x)] [(.int (1 : Int32))])) _
    exact retN X21 hx (t := .boolean) Bd.returns (by simp) (hb hby d23_24) hr
  · show Q23 Z a1 x el lcl w h0 n0 _ T21.heap _
    exact ⟨lcl'_21, rfl, N22, KK25, p21_1, p21_2, p21_3, p21_4, p21_5, p21_6⟩
theorem d25_0 : decode jdk_38_method_8_code 0 = .ok (.aload_n 0, 1) := by decide +kernel
theorem d25_1 : decode jdk_38_method_8_code 1 = .ok (.getfield 48, 3) := by decide +kernel
theorem d25_4 : decode jdk_38_method_8_code 4 = .ok (.ireturn, 1) := by decide +kernel
theorem pn_25 : plainName "java/util/ArrayList" = true := by first | (simp [plainName, overriddenIn]; done) | decide +kernel
theorem ef_25_x (m : MethodId) (x0 : Addr) : entryFrame m #[(.ref x0)] 1 = mkF m 0 #[.val (.ref x0)] [] := by first | (simp [entryFrame, mkF, argsToLocals, Value.category]; done) | rfl
def Q25 (Z : State) (a1 : Addr) (w : Int32) (h0 : Heap) (n0 : Nat) (v : Option Value) (h : Heap) (L : List Loc) : Prop := v = some (.int w) ∧ Fr n0 L ∧ h = h0
set_option maxRecDepth 65536 in
set_option maxHeartbeats 40000000 in
theorem rm25 (l : Launch) (Z : State) (a0 : Array Value) (hw : ∀ d ∈ tables_1, d.before a0 Z = true) (ws : List Jvm.Cond) (a1 : Addr) (w : Int32) (h0 : Heap) (n0 : Nat) (Z0 : n0 ≤ h0.size) (F_size_a1 : Fld Z h0 a1 "java/util/ArrayList" "size" "I" (.int w)) :
    MetFree l (⟨"java/util/ArrayList", "size", "()I"⟩ : MethodName) (head1 (Jvm.Cond.code (⟨"java/util/ArrayList", "size", "()I"⟩ : MethodName) jdk_38_method_8_code 1 (some .int) :: ws) ({ frames := 0, cells := 0, slots := 0, locals := 0 } : Room)) (fun a U => a = #[(.ref a1)] ∧ Z.Warmed39 U.vm ∧ U.heap = h0) (fun _ _ _ _ _ => True) (fun _ U o U' => ∃ v L, o = .returned v ∧ Q25 Z a1 w h0 n0 v U'.heap L ∧ FrameEnd U o U' L ({ frames := 0, cells := 0, slots := 0, locals := 0 } : Room).cells ({ frames := 0, cells := 0, slots := 0, locals := 0 } : Room).slots) := by
  refine MetFree.of_bodySF (plainFor_of_name pn_25) hisR ?_
  intro p e s m args below meth c s₁ Bd hml0 hP hK
  obtain ⟨rfl, hZ, hh⟩ := hP
  have hx := Bd.exec
  have hby := Bd.bytes
  have hml : c.maxLocals = 1 := hml0
  have hown : s.vm.findClass "java/util/ArrayList" = some m.cls := findClass_of_methodNamed Bd.named
  have hnm := (name_of_methodNamed Bd.named Bd.method).1
  have X0 : Stand p l e ({ frames := 0, cells := 0, slots := 0, locals := 0 } : Room) s m #[(.ref a1)] below meth c s₁ [] 0 0 := Stand.of_body Bd
  have e0 : s₁.heap = h0 := by rw [← hh, Bd.state]; rfl
  have N0 := Fr.nil n0
  have pre0 : ∀ t, Steps p.tables e below (s₁.setTop (mkF m 0 #[.val (.ref a1)] [])) t → Steps p.tables e below (s₁.setTop (entryFrame m #[(.ref a1)] 1)) t := fun t k => castTop (ef_25_x m a1) k
  have J1 : ∀ t, Steps p.tables e below (s₁.setTop (mkF m 1 #[.val (.ref a1)] [(.ref a1)])) t → Steps p.tables e below (s₁.setTop (entryFrame m #[(.ref a1)] 1)) t := fun t k => pre0 t (by
      show Steps p.tables e below (s₁.setTop (mkF m 0 #[.val (.ref a1)] [])) _
      refine XS.aloadN X0.here hx rfl (hb hby d25_0) rfl rfl ?_
      exact k)
  obtain ⟨T2, X2, e2, st2⟩ := getF X0 hx hZ hown (host := "") (Or.inl (hw _ (List.mem_of_getElem? (i := 156) rfl))) Via.refl e0 F_size_a1 (g := (mkF m 1 #[.val (.ref a1)] [(.ref a1)])) rfl rfl (hb hby d25_1)
  have J3 : ∀ t, Steps p.tables e below (T2.setTop (mkF m 4 #[.val (.ref a1)] [(.int w)])) t → Steps p.tables e below (s₁.setTop (entryFrame m #[(.ref a1)] 1)) t := fun t k => J1 t (st2 t k)
  obtain ⟨fs, hr, hrun, hended, hW, hsame⟩ := X2.leave (v := some (.int w)) (fun h => by rw [Bd.returns] at h; cases h)
  refine ⟨_, _, J3 _ ?_, hrun, hended, _, _, rfl, ?_, ⟨_, rfl⟩, hW, hsame.mono (by decide) (by decide)⟩
  · show Steps p.tables e below (T2.setTop (mkF m 4 #[.val (.ref a1)] [(.int w)])) _
    exact retI X2 hx Bd.returns (hb hby d25_4) hr
  · show Q25 Z a1 w h0 n0 _ T2.heap _
    rw [e2]
    exact ⟨rfl, N0, rfl⟩
theorem d28_0 : decode jdk_41_method_11_code 0 = .ok (.iload_n 0, 1) := by decide +kernel
theorem d28_1 : decode jdk_41_method_11_code 1 = .ok (.ifCond .lt 8, 3) := by decide +kernel
theorem d28_4 : decode jdk_41_method_11_code 4 = .ok (.iload_n 0, 1) := by decide +kernel
theorem d28_5 : decode jdk_41_method_11_code 5 = .ok (.iload_n 1, 1) := by decide +kernel
theorem d28_6 : decode jdk_41_method_11_code 6 = .ok (.if_icmp .lt 10, 3) := by decide +kernel
theorem d28_16 : decode jdk_41_method_11_code 16 = .ok (.iload_n 0, 1) := by decide +kernel
theorem d28_17 : decode jdk_41_method_11_code 17 = .ok (.ireturn, 1) := by decide +kernel
theorem pn_28 : plainName "jdk/internal/util/Preconditions" = true := by first | (simp [plainName, overriddenIn]; done) | decide +kernel
theorem ef_28_xxn (m : MethodId) (x0 : Int32) (x1 : Int32) : entryFrame m #[(.int x0), (.int x1), .null] 3 = mkF m 0 #[.val (.int x0), .val (.int x1), .val .null] [] := by first | (simp [entryFrame, mkF, argsToLocals, Value.category]; done) | rfl
def Q28 (Z : State)  (h0 : Heap) (n0 : Nat) (v : Option Value) (h : Heap) (L : List Loc) : Prop := v = some (.int (0 : Int32)) ∧ Fr n0 L ∧ h = h0
set_option maxRecDepth 65536 in
set_option maxHeartbeats 40000000 in
theorem rm28 (l : Launch) (Z : State) (a0 : Array Value) (hw : ∀ d ∈ tables_1, d.before a0 Z = true) (ws : List Jvm.Cond)  (h0 : Heap) (n0 : Nat) (Z0 : n0 ≤ h0.size) :
    MetFree l (⟨"jdk/internal/util/Preconditions", "checkIndex", "(IILjava/util/function/BiFunction;)I"⟩ : MethodName) (head1 (Jvm.Cond.code (⟨"jdk/internal/util/Preconditions", "checkIndex", "(IILjava/util/function/BiFunction;)I"⟩ : MethodName) jdk_41_method_11_code 3 (some .int) :: ws) ({ frames := 0, cells := 0, slots := 0, locals := 0 } : Room)) (fun a U => a = #[(.int (0 : Int32)), (.int (1 : Int32)), .null] ∧ Z.Warmed39 U.vm ∧ U.heap = h0) (fun _ _ _ _ _ => True) (fun _ U o U' => ∃ v L, o = .returned v ∧ Q28 Z  h0 n0 v U'.heap L ∧ FrameEnd U o U' L ({ frames := 0, cells := 0, slots := 0, locals := 0 } : Room).cells ({ frames := 0, cells := 0, slots := 0, locals := 0 } : Room).slots) := by
  refine MetFree.of_bodySF (plainFor_of_name pn_28) hisR ?_
  intro p e s m args below meth c s₁ Bd hml0 hP hK
  obtain ⟨rfl, hZ, hh⟩ := hP
  have hx := Bd.exec
  have hby := Bd.bytes
  have hml : c.maxLocals = 3 := hml0
  have hown : s.vm.findClass "jdk/internal/util/Preconditions" = some m.cls := findClass_of_methodNamed Bd.named
  have hnm := (name_of_methodNamed Bd.named Bd.method).1
  have X0 : Stand p l e ({ frames := 0, cells := 0, slots := 0, locals := 0 } : Room) s m #[(.int (0 : Int32)), (.int (1 : Int32)), .null] below meth c s₁ [] 0 0 := Stand.of_body Bd
  have e0 : s₁.heap = h0 := by rw [← hh, Bd.state]; rfl
  have N0 := Fr.nil n0
  have pre0 : ∀ t, Steps p.tables e below (s₁.setTop (mkF m 0 #[.val (.int (0 : Int32)), .val (.int (1 : Int32)), .val .null] [])) t → Steps p.tables e below (s₁.setTop (entryFrame m #[(.int (0 : Int32)), (.int (1 : Int32)), .null] 3)) t := fun t k => castTop (ef_28_xxn m (0 : Int32) (1 : Int32)) k
  have J1 : ∀ t, Steps p.tables e below (s₁.setTop (mkF m 17 #[.val (.int (0 : Int32)), .val (.int (1 : Int32)), .val .null] [(.int (0 : Int32))])) t → Steps p.tables e below (s₁.setTop (entryFrame m #[(.int (0 : Int32)), (.int (1 : Int32)), .null] 3)) t := fun t k => pre0 t (by
      show Steps p.tables e below (s₁.setTop (mkF m 0 #[.val (.int (0 : Int32)), .val (.int (1 : Int32)), .val .null] [])) _
      refine XS.iloadN X0.here hx rfl (hb hby d28_0) rfl ?_
      show Steps p.tables e below (s₁.setTop (mkF m 1 #[.val (.int (0 : Int32)), .val (.int (1 : Int32)), .val .null] [(.int (0 : Int32))])) _
      refine XS.ifNo X0.here hx rfl (hb hby d28_1) rfl ((if0 _ _).trans (flt (by decide)).1) ?_
      show Steps p.tables e below (s₁.setTop (mkF m 4 #[.val (.int (0 : Int32)), .val (.int (1 : Int32)), .val .null] [])) _
      refine XS.iloadN X0.here hx rfl (hb hby d28_4) rfl ?_
      show Steps p.tables e below (s₁.setTop (mkF m 5 #[.val (.int (0 : Int32)), .val (.int (1 : Int32)), .val .null] [(.int (0 : Int32))])) _
      refine XS.iloadN X0.here hx rfl (hb hby d28_5) rfl ?_
      show Steps p.tables e below (s₁.setTop (mkF m 6 #[.val (.int (0 : Int32)), .val (.int (1 : Int32)), .val .null] [(.int (1 : Int32)), (.int (0 : Int32))])) _
      refine XS.icmpYes X0.here hx rfl (pc0 := 6) (pc' := 16) rfl (hb hby d28_6) rfl (tlt (by decide)).1 (by decide) (by decide) ?_
      show Steps p.tables e below (s₁.setTop (mkF m 16 #[.val (.int (0 : Int32)), .val (.int (1 : Int32)), .val .null] [])) _
      refine XS.iloadN X0.here hx rfl (hb hby d28_16) rfl ?_
      exact k)
  obtain ⟨fs, hr, hrun, hended, hW, hsame⟩ := X0.leave (v := some (.int (0 : Int32))) (fun h => by rw [Bd.returns] at h; cases h)
  refine ⟨_, _, J1 _ ?_, hrun, hended, _, _, rfl, ?_, ⟨_, rfl⟩, hW, hsame.mono (by decide) (by decide)⟩
  · show Steps p.tables e below (s₁.setTop (mkF m 17 #[.val (.int (0 : Int32)), .val (.int (1 : Int32)), .val .null] [(.int (0 : Int32))])) _
    exact retI X0 hx Bd.returns (hb hby d28_17) hr
  · show Q28 Z  h0 n0 _ s₁.heap _
    rw [e0]
    exact ⟨rfl, N0, rfl⟩
theorem d27_0 : decode jdk_31_method_17_code 0 = .ok (.iload_n 0, 1) := by decide +kernel
theorem d27_1 : decode jdk_31_method_17_code 1 = .ok (.iload_n 1, 1) := by decide +kernel
theorem d27_2 : decode jdk_31_method_17_code 2 = .ok (.aconst_null, 1) := by decide +kernel
theorem d27_3 : decode jdk_31_method_17_code 3 = .ok (.invokestatic 105, 3) := by decide +kernel
theorem pd_5 : parseMethodDescriptor "(IILjava/util/function/BiFunction;)I" = some ⟨[.int, .int, (.object "java/util/function/BiFunction")], some .int⟩ := by decide +kernel
theorem d27_6 : decode jdk_31_method_17_code 6 = .ok (.ireturn, 1) := by decide +kernel
theorem pn_27 : plainName "java/util/Objects" = true := by first | (simp [plainName, overriddenIn]; done) | decide +kernel
theorem ef_27_xx (m : MethodId) (x0 : Int32) (x1 : Int32) : entryFrame m #[(.int x0), (.int x1)] 2 = mkF m 0 #[.val (.int x0), .val (.int x1)] [] := by first | (simp [entryFrame, mkF, argsToLocals, Value.category]; done) | rfl
def Q27 (Z : State)  (h0 : Heap) (n0 : Nat) (v : Option Value) (h : Heap) (L : List Loc) : Prop := v = some (.int (0 : Int32)) ∧ Fr n0 L ∧ h = h0
set_option maxRecDepth 65536 in
set_option maxHeartbeats 40000000 in
theorem rm27 (l : Launch) (Z : State) (a0 : Array Value) (hw : ∀ d ∈ tables_1, d.before a0 Z = true) (ws : List Jvm.Cond)  (h0 : Heap) (n0 : Nat) (Z0 : n0 ≤ h0.size) :
    MetFree l (⟨"java/util/Objects", "checkIndex", "(II)I"⟩ : MethodName) (head1 (Jvm.Cond.code (⟨"java/util/Objects", "checkIndex", "(II)I"⟩ : MethodName) jdk_31_method_17_code 2 (some .int) :: ws) ({ frames := 1, cells := 0, slots := 0, locals := 14 } : Room)) (fun a U => a = #[(.int (0 : Int32)), (.int (1 : Int32))] ∧ Z.Warmed39 U.vm ∧ U.heap = h0) (fun _ _ _ _ _ => True) (fun _ U o U' => ∃ v L, o = .returned v ∧ Q27 Z  h0 n0 v U'.heap L ∧ FrameEnd U o U' L ({ frames := 1, cells := 0, slots := 0, locals := 14 } : Room).cells ({ frames := 1, cells := 0, slots := 0, locals := 14 } : Room).slots) := by
  refine MetFree.of_bodySF (plainFor_of_name pn_27) hisR ?_
  intro p e s m args below meth c s₁ Bd hml0 hP hK
  obtain ⟨rfl, hZ, hh⟩ := hP
  have hx := Bd.exec
  have hby := Bd.bytes
  have hml : c.maxLocals = 2 := hml0
  have hown : s.vm.findClass "java/util/Objects" = some m.cls := findClass_of_methodNamed Bd.named
  have hnm := (name_of_methodNamed Bd.named Bd.method).1
  have X0 : Stand p l e ({ frames := 1, cells := 0, slots := 0, locals := 14 } : Room) s m #[(.int (0 : Int32)), (.int (1 : Int32))] below meth c s₁ [] 0 0 := Stand.of_body Bd
  have e0 : s₁.heap = h0 := by rw [← hh, Bd.state]; rfl
  have N0 := Fr.nil n0
  have pre0 : ∀ t, Steps p.tables e below (s₁.setTop (mkF m 0 #[.val (.int (0 : Int32)), .val (.int (1 : Int32))] [])) t → Steps p.tables e below (s₁.setTop (entryFrame m #[(.int (0 : Int32)), (.int (1 : Int32))] 2)) t := fun t k => castTop (ef_27_xx m (0 : Int32) (1 : Int32)) k
  have J1 : ∀ t, Steps p.tables e below (s₁.setTop (mkF m 3 #[.val (.int (0 : Int32)), .val (.int (1 : Int32))] [.null, (.int (1 : Int32)), (.int (0 : Int32))])) t → Steps p.tables e below (s₁.setTop (entryFrame m #[(.int (0 : Int32)), (.int (1 : Int32))] 2)) t := fun t k => pre0 t (by
      show Steps p.tables e below (s₁.setTop (mkF m 0 #[.val (.int (0 : Int32)), .val (.int (1 : Int32))] [])) _
      refine XS.iloadN X0.here hx rfl (hb hby d27_0) rfl ?_
      show Steps p.tables e below (s₁.setTop (mkF m 1 #[.val (.int (0 : Int32)), .val (.int (1 : Int32))] [(.int (0 : Int32))])) _
      refine XS.iloadN X0.here hx rfl (hb hby d27_1) rfl ?_
      show Steps p.tables e below (s₁.setTop (mkF m 2 #[.val (.int (0 : Int32)), .val (.int (1 : Int32))] [(.int (1 : Int32)), (.int (0 : Int32))])) _
      refine XS.aconstNull X0.here hx rfl (hb hby d27_2) ?_
      exact k)
  obtain ⟨_, _, ⟨T2, L2, k2, n2⟩, -, X2, ⟨Lc2, hQ2, l2, y2, z2⟩, st2⟩ := Jvm.LawKit.callS X0 hx (y := (⟨"jdk/internal/util/Preconditions", "checkIndex", "(IILjava/util/function/BiFunction;)I"⟩ : MethodName)) hown (mvT hZ (hw _ (List.mem_of_getElem? (i := 184) rfl))) (mvT hZ (hw _ (List.mem_of_getElem? (i := 185) rfl))) (mvT hZ (hw _ (List.mem_of_getElem? (i := 123) rfl))) (mvT hZ (hw _ (List.mem_of_getElem? (i := 186) rfl))) (by decide) (backOf (W := 0) (rm28 l Z a0 hw []  h0 n0 Z0 ) hZ (hw _ (List.mem_of_getElem? (i := 186) rfl)) (hw _ (List.mem_of_getElem? (i := 123) rfl)) (by decide) (by decide)) (g := (mkF m 3 #[.val (.int (0 : Int32)), .val (.int (1 : Int32))] [.null, (.int (1 : Int32)), (.int (0 : Int32))])) rfl (by rw [hml]; rfl) (argsL := [(.int (0 : Int32)), (.int (1 : Int32)), .null]) (rest := []) (lenOf pd_5 rfl) rfl (by show 2 * 0 + _ ≤ _; exact Nat.le_of_eq rfl) (hb hby d27_3) (fun _ _ => ⟨rfl, e0, (by decide : 0 + 0 ≤ _), (by decide : 0 + 0 ≤ _)⟩)
  dsimp only [Pt.U, Pt.locs, Pt.cells, Pt.slots] at X2 l2 y2 z2 st2 hQ2
  subst y2 z2
  obtain ⟨rfl, Nq2, e2⟩ := hQ2
  have N3 : Fr n0 L2 := by rw [l2]; exact Fr.app N0 Nq2
  have J4 : ∀ t, Steps p.tables e below (T2.setTop (mkF m 6 #[.val (.int (0 : Int32)), .val (.int (1 : Int32))] [(.int (0 : Int32))])) t → Steps p.tables e below (s₁.setTop (entryFrame m #[(.int (0 : Int32)), (.int (1 : Int32))] 2)) t := fun t k => J1 t (st2 t k)
  obtain ⟨fs, hr, hrun, hended, hW, hsame⟩ := X2.leave (v := some (.int (0 : Int32))) (fun h => by rw [Bd.returns] at h; cases h)
  refine ⟨_, _, J4 _ ?_, hrun, hended, _, _, rfl, ?_, ⟨_, rfl⟩, hW, hsame.mono (by decide) (by decide)⟩
  · show Steps p.tables e below (T2.setTop (mkF m 6 #[.val (.int (0 : Int32)), .val (.int (1 : Int32))] [(.int (0 : Int32))])) _
    exact retI X2 hx Bd.returns (hb hby d27_6) hr
  · show Q27 Z  h0 n0 _ T2.heap _
    rw [e2]
    exact ⟨rfl, N3, rfl⟩
theorem d29_0 : decode jdk_38_method_18_code 0 = .ok (.aload_n 0, 1) := by decide +kernel
theorem d29_1 : decode jdk_38_method_18_code 1 = .ok (.getfield 9, 3) := by decide +kernel
theorem d29_4 : decode jdk_38_method_18_code 4 = .ok (.iload_n 1, 1) := by decide +kernel
theorem d29_5 : decode jdk_38_method_18_code 5 = .ok (.aaload, 1) := by decide +kernel
theorem d29_6 : decode jdk_38_method_18_code 6 = .ok (.areturn, 1) := by decide +kernel
theorem pn_29 : plainName "java/util/ArrayList" = true := by first | (simp [plainName, overriddenIn]; done) | decide +kernel
theorem ef_29_xx (m : MethodId) (x0 : Addr) (x1 : Int32) : entryFrame m #[(.ref x0), (.int x1)] 2 = mkF m 0 #[.val (.ref x0), .val (.int x1)] [] := by first | (simp [entryFrame, mkF, argsToLocals, Value.category]; done) | rfl
def Q29 (Z : State) (a1 : Addr) (x : Addr) (el : Addr) (lcl : Cell) (h0 : Heap) (n0 : Nat) (v : Option Value) (h : Heap) (L : List Loc) : Prop := v = some (.ref x) ∧ Fr n0 L ∧ h = h0
set_option maxRecDepth 65536 in
set_option maxHeartbeats 40000000 in
theorem rm29 (l : Launch) (Z : State) (a0 : Array Value) (hw : ∀ d ∈ tables_1, d.before a0 Z = true) (ws : List Jvm.Cond) (a1 : Addr) (x : Addr) (el : Addr) (lcl : Cell) (h0 : Heap) (n0 : Nat) (Z0 : n0 ≤ h0.size) (E_a1 : Exa Z h0 a1 "java/util/ArrayList") (Ar_el : Arr Z h0 el lcl (.object "java/lang/Object")) (hs : lcl.slots.size = 1) (hl0 : lcl.slots[0]? = some (.ref x)) (F_elementData_a1 : Fld Z h0 a1 "java/util/ArrayList" "elementData" "[Ljava/lang/Object;" (.ref el)) :
    MetFree l (⟨"java/util/ArrayList", "elementData", "(I)Ljava/lang/Object;"⟩ : MethodName) (head1 (Jvm.Cond.code (⟨"java/util/ArrayList", "elementData", "(I)Ljava/lang/Object;"⟩ : MethodName) jdk_38_method_18_code 2 (some (.object "java/lang/Object")) :: ws) ({ frames := 0, cells := 0, slots := 0, locals := 0 } : Room)) (fun a U => a = #[(.ref a1), (.int (0 : Int32))] ∧ Z.Warmed39 U.vm ∧ U.heap = h0) (fun _ _ _ _ _ => True) (fun _ U o U' => ∃ v L, o = .returned v ∧ Q29 Z a1 x el lcl h0 n0 v U'.heap L ∧ FrameEnd U o U' L ({ frames := 0, cells := 0, slots := 0, locals := 0 } : Room).cells ({ frames := 0, cells := 0, slots := 0, locals := 0 } : Room).slots) := by
  refine MetFree.of_bodySF (plainFor_of_name pn_29) hisR ?_
  intro p e s m args below meth c s₁ Bd hml0 hP hK
  obtain ⟨rfl, hZ, hh⟩ := hP
  have hx := Bd.exec
  have hby := Bd.bytes
  have hml : c.maxLocals = 2 := hml0
  have hown : s.vm.findClass "java/util/ArrayList" = some m.cls := findClass_of_methodNamed Bd.named
  have hnm := (name_of_methodNamed Bd.named Bd.method).1
  have X0 : Stand p l e ({ frames := 0, cells := 0, slots := 0, locals := 0 } : Room) s m #[(.ref a1), (.int (0 : Int32))] below meth c s₁ [] 0 0 := Stand.of_body Bd
  have e0 : s₁.heap = h0 := by rw [← hh, Bd.state]; rfl
  have N0 := Fr.nil n0
  have pre0 : ∀ t, Steps p.tables e below (s₁.setTop (mkF m 0 #[.val (.ref a1), .val (.int (0 : Int32))] [])) t → Steps p.tables e below (s₁.setTop (entryFrame m #[(.ref a1), (.int (0 : Int32))] 2)) t := fun t k => castTop (ef_29_xx m a1 (0 : Int32)) k
  have J1 : ∀ t, Steps p.tables e below (s₁.setTop (mkF m 1 #[.val (.ref a1), .val (.int (0 : Int32))] [(.ref a1)])) t → Steps p.tables e below (s₁.setTop (entryFrame m #[(.ref a1), (.int (0 : Int32))] 2)) t := fun t k => pre0 t (by
      show Steps p.tables e below (s₁.setTop (mkF m 0 #[.val (.ref a1), .val (.int (0 : Int32))] [])) _
      refine XS.aloadN X0.here hx rfl (hb hby d29_0) rfl rfl ?_
      exact k)
  obtain ⟨T2, X2, e2, st2⟩ := getF X0 hx hZ hown (host := "") (Or.inl (hw _ (List.mem_of_getElem? (i := 110) rfl))) Via.refl e0 F_elementData_a1 (g := (mkF m 1 #[.val (.ref a1), .val (.int (0 : Int32))] [(.ref a1)])) rfl rfl (hb hby d29_1)
  have J3 : ∀ t, Steps p.tables e below (T2.setTop (mkF m 4 #[.val (.ref a1), .val (.int (0 : Int32))] [(.ref el)])) t → Steps p.tables e below (s₁.setTop (entryFrame m #[(.ref a1), (.int (0 : Int32))] 2)) t := fun t k => J1 t (st2 t k)
  have J4 : ∀ t, Steps p.tables e below (T2.setTop (mkF m 6 #[.val (.ref a1), .val (.int (0 : Int32))] [(.ref x)])) t → Steps p.tables e below (s₁.setTop (entryFrame m #[(.ref a1), (.int (0 : Int32))] 2)) t := fun t k => J3 t (by
      show Steps p.tables e below (T2.setTop (mkF m 4 #[.val (.ref a1), .val (.int (0 : Int32))] [(.ref el)])) _
      refine XS.iloadN X2.here hx rfl (hb hby d29_4) rfl ?_
      show Steps p.tables e below (T2.setTop (mkF m 5 #[.val (.ref a1), .val (.int (0 : Int32))] [(.int (0 : Int32)), (.ref el)])) _
      refine X2.aaload hx (j := (0 : Int32)) (v := (.ref x)) (by rw [e2]; exact Ar_el.1) (State.isArrayOf_alike hZ.alike Ar_el.2.1) rfl Ar_el.2.2 (own_in hs (by decide) (by decide)) (own_at (by decide) hl0) (g := (mkF m 5 #[.val (.ref a1), .val (.int (0 : Int32))] [(.int (0 : Int32)), (.ref el)])) rfl rfl (hb hby d29_5) _ ?_
      exact k)
  obtain ⟨fs, hr, hrun, hended, hW, hsame⟩ := X2.leave (v := some (.ref x)) (fun h => by rw [Bd.returns] at h; cases h)
  refine ⟨_, _, J4 _ ?_, hrun, hended, _, _, rfl, ?_, ⟨_, rfl⟩, hW, hsame.mono (by decide) (by decide)⟩
  · show Steps p.tables e below (T2.setTop (mkF m 6 #[.val (.ref a1), .val (.int (0 : Int32))] [(.ref x)])) _
    jvm_step X2.here [X2.here.top, hx, (hb hby d29_6), X2.method', Bd.returns, Value.isRef, FieldType.isReference]
    first | (intro acts; rw [hr _ acts rfl rfl rfl]) | rw [hr _ _ rfl rfl rfl]
    exact Steps.refl _
  · show Q29 Z a1 x el lcl h0 n0 _ T2.heap _
    rw [e2]
    exact ⟨rfl, N0, rfl⟩
theorem d26_0 : decode jdk_38_method_20_code 0 = .ok (.iload_n 1, 1) := by decide +kernel
theorem d26_1 : decode jdk_38_method_20_code 1 = .ok (.aload_n 0, 1) := by decide +kernel
theorem d26_2 : decode jdk_38_method_20_code 2 = .ok (.getfield 48, 3) := by decide +kernel
theorem d26_5 : decode jdk_38_method_20_code 5 = .ok (.invokestatic 118, 3) := by decide +kernel
theorem pd_6 : parseMethodDescriptor "(II)I" = some ⟨[.int, .int], some .int⟩ := by decide +kernel
theorem d26_8 : decode jdk_38_method_20_code 8 = .ok (.pop, 1) := by decide +kernel
theorem d26_9 : decode jdk_38_method_20_code 9 = .ok (.aload_n 0, 1) := by decide +kernel
theorem d26_10 : decode jdk_38_method_20_code 10 = .ok (.iload_n 1, 1) := by decide +kernel
theorem d26_11 : decode jdk_38_method_20_code 11 = .ok (.invokevirtual 123, 3) := by decide +kernel
theorem pd_7 : parseMethodDescriptor "(I)Ljava/lang/Object;" = some ⟨[.int], some (.object "java/lang/Object")⟩ := by decide +kernel
theorem d26_14 : decode jdk_38_method_20_code 14 = .ok (.areturn, 1) := by decide +kernel
theorem pn_26 : plainName "java/util/ArrayList" = true := by first | (simp [plainName, overriddenIn]; done) | decide +kernel
theorem ef_26_xx (m : MethodId) (x0 : Addr) (x1 : Int32) : entryFrame m #[(.ref x0), (.int x1)] 2 = mkF m 0 #[.val (.ref x0), .val (.int x1)] [] := by first | (simp [entryFrame, mkF, argsToLocals, Value.category]; done) | rfl
def Q26 (Z : State) (a1 : Addr) (x : Addr) (el : Addr) (lcl : Cell) (h0 : Heap) (n0 : Nat) (v : Option Value) (h : Heap) (L : List Loc) : Prop := v = some (.ref x) ∧ Fr n0 L ∧ h = h0
set_option maxRecDepth 65536 in
set_option maxHeartbeats 40000000 in
theorem rm26 (l : Launch) (Z : State) (a0 : Array Value) (hw : ∀ d ∈ tables_1, d.before a0 Z = true) (ws : List Jvm.Cond) (a1 : Addr) (x : Addr) (el : Addr) (lcl : Cell) (h0 : Heap) (n0 : Nat) (Z0 : n0 ≤ h0.size) (E_a1 : Exa Z h0 a1 "java/util/ArrayList") (Ar_el : Arr Z h0 el lcl (.object "java/lang/Object")) (hs : lcl.slots.size = 1) (hl0 : lcl.slots[0]? = some (.ref x)) (F_elementData_a1 : Fld Z h0 a1 "java/util/ArrayList" "elementData" "[Ljava/lang/Object;" (.ref el)) (F_size_a1 : Fld Z h0 a1 "java/util/ArrayList" "size" "I" (.int (1 : Int32))) :
    MetFree l (⟨"java/util/ArrayList", "get", "(I)Ljava/lang/Object;"⟩ : MethodName) (head1 (Jvm.Cond.code (⟨"java/util/ArrayList", "get", "(I)Ljava/lang/Object;"⟩ : MethodName) jdk_38_method_20_code 2 (some (.object "java/lang/Object")) :: ws) ({ frames := 2, cells := 0, slots := 0, locals := 27 } : Room)) (fun a U => a = #[(.ref a1), (.int (0 : Int32))] ∧ Z.Warmed39 U.vm ∧ U.heap = h0) (fun _ _ _ _ _ => True) (fun _ U o U' => ∃ v L, o = .returned v ∧ Q26 Z a1 x el lcl h0 n0 v U'.heap L ∧ FrameEnd U o U' L ({ frames := 2, cells := 0, slots := 0, locals := 27 } : Room).cells ({ frames := 2, cells := 0, slots := 0, locals := 27 } : Room).slots) := by
  refine MetFree.of_bodySF (plainFor_of_name pn_26) hisR ?_
  intro p e s m args below meth c s₁ Bd hml0 hP hK
  obtain ⟨rfl, hZ, hh⟩ := hP
  have hx := Bd.exec
  have hby := Bd.bytes
  have hml : c.maxLocals = 2 := hml0
  have hown : s.vm.findClass "java/util/ArrayList" = some m.cls := findClass_of_methodNamed Bd.named
  have hnm := (name_of_methodNamed Bd.named Bd.method).1
  have X0 : Stand p l e ({ frames := 2, cells := 0, slots := 0, locals := 27 } : Room) s m #[(.ref a1), (.int (0 : Int32))] below meth c s₁ [] 0 0 := Stand.of_body Bd
  have e0 : s₁.heap = h0 := by rw [← hh, Bd.state]; rfl
  have N0 := Fr.nil n0
  have pre0 : ∀ t, Steps p.tables e below (s₁.setTop (mkF m 0 #[.val (.ref a1), .val (.int (0 : Int32))] [])) t → Steps p.tables e below (s₁.setTop (entryFrame m #[(.ref a1), (.int (0 : Int32))] 2)) t := fun t k => castTop (ef_26_xx m a1 (0 : Int32)) k
  have J1 : ∀ t, Steps p.tables e below (s₁.setTop (mkF m 2 #[.val (.ref a1), .val (.int (0 : Int32))] [(.ref a1), (.int (0 : Int32))])) t → Steps p.tables e below (s₁.setTop (entryFrame m #[(.ref a1), (.int (0 : Int32))] 2)) t := fun t k => pre0 t (by
      show Steps p.tables e below (s₁.setTop (mkF m 0 #[.val (.ref a1), .val (.int (0 : Int32))] [])) _
      refine XS.iloadN X0.here hx rfl (hb hby d26_0) rfl ?_
      show Steps p.tables e below (s₁.setTop (mkF m 1 #[.val (.ref a1), .val (.int (0 : Int32))] [(.int (0 : Int32))])) _
      refine XS.aloadN X0.here hx rfl (hb hby d26_1) rfl rfl ?_
      exact k)
  obtain ⟨T2, X2, e2, st2⟩ := getF X0 hx hZ hown (host := "") (Or.inl (hw _ (List.mem_of_getElem? (i := 156) rfl))) Via.refl e0 F_size_a1 (g := (mkF m 2 #[.val (.ref a1), .val (.int (0 : Int32))] [(.ref a1), (.int (0 : Int32))])) rfl rfl (hb hby d26_2)
  have J3 : ∀ t, Steps p.tables e below (T2.setTop (mkF m 5 #[.val (.ref a1), .val (.int (0 : Int32))] [(.int (1 : Int32)), (.int (0 : Int32))])) t → Steps p.tables e below (s₁.setTop (entryFrame m #[(.ref a1), (.int (0 : Int32))] 2)) t := fun t k => J1 t (st2 t k)
  obtain ⟨_, _, ⟨T4, L4, k4, n4⟩, -, X4, ⟨Lc4, hQ4, l4, y4, z4⟩, st4⟩ := Jvm.LawKit.callS X2 hx (y := (⟨"java/util/Objects", "checkIndex", "(II)I"⟩ : MethodName)) hown (mvT hZ (hw _ (List.mem_of_getElem? (i := 180) rfl))) (mvT hZ (hw _ (List.mem_of_getElem? (i := 181) rfl))) (mvT hZ (hw _ (List.mem_of_getElem? (i := 182) rfl))) (mvT hZ (hw _ (List.mem_of_getElem? (i := 183) rfl))) (by decide) (backOf (W := 0) (rm27 l Z a0 hw []  h0 n0 Z0 ) hZ (hw _ (List.mem_of_getElem? (i := 183) rfl)) (hw _ (List.mem_of_getElem? (i := 182) rfl)) (by decide) (by decide)) (g := (mkF m 5 #[.val (.ref a1), .val (.int (0 : Int32))] [(.int (1 : Int32)), (.int (0 : Int32))])) rfl (by rw [hml]; rfl) (argsL := [(.int (0 : Int32)), (.int (1 : Int32))]) (rest := []) (lenOf pd_6 rfl) rfl (by show 2 * 0 + _ ≤ _; exact Nat.le_of_eq rfl) (hb hby d26_5) (fun _ _ => ⟨rfl, e2, (by decide : 0 + 0 ≤ _), (by decide : 0 + 0 ≤ _)⟩)
  dsimp only [Pt.U, Pt.locs, Pt.cells, Pt.slots] at X4 l4 y4 z4 st4 hQ4
  subst y4 z4
  obtain ⟨rfl, Nq4, e4⟩ := hQ4
  have N5 : Fr n0 L4 := by rw [l4]; exact Fr.app N0 Nq4
  have J6 : ∀ t, Steps p.tables e below (T4.setTop (mkF m 8 #[.val (.ref a1), .val (.int (0 : Int32))] [(.int (0 : Int32))])) t → Steps p.tables e below (s₁.setTop (entryFrame m #[(.ref a1), (.int (0 : Int32))] 2)) t := fun t k => J3 t (st4 t k)
  have J7 : ∀ t, Steps p.tables e below (T4.setTop (mkF m 11 #[.val (.ref a1), .val (.int (0 : Int32))] [(.int (0 : Int32)), (.ref a1)])) t → Steps p.tables e below (s₁.setTop (entryFrame m #[(.ref a1), (.int (0 : Int32))] 2)) t := fun t k => J6 t (by
      show Steps p.tables e below (T4.setTop (mkF m 8 #[.val (.ref a1), .val (.int (0 : Int32))] [(.int (0 : Int32))])) _
      refine XS.pop X4.here hx rfl (hb hby d26_8) rfl rfl ?_
      show Steps p.tables e below (T4.setTop (mkF m 9 #[.val (.ref a1), .val (.int (0 : Int32))] [])) _
      refine XS.aloadN X4.here hx rfl (hb hby d26_9) rfl rfl ?_
      show Steps p.tables e below (T4.setTop (mkF m 10 #[.val (.ref a1), .val (.int (0 : Int32))] [(.ref a1)])) _
      refine XS.iloadN X4.here hx rfl (hb hby d26_10) rfl ?_
      exact k)
  obtain ⟨cq8, kq8, q8a, q8b, q8c⟩ := isOf hZ e4 E_a1
  obtain ⟨_, _, ⟨T8, L8, k8, n8⟩, -, X8, ⟨Lc8, hQ8, l8, y8, z8⟩, st8⟩ := X4.virtualBack hx (y := (⟨"java/util/ArrayList", "elementData", "(I)Ljava/lang/Object;"⟩ : MethodName)) (z := (⟨"java/util/ArrayList", "elementData", "(I)Ljava/lang/Object;"⟩ : MethodName)) hown (mvT hZ (hw _ (List.mem_of_getElem? (i := 187) rfl))) (mvT hZ (hw _ (List.mem_of_getElem? (i := 188) rfl))) (notFace_of_selects (args := #[]) (mvT hZ (hw _ (List.mem_of_getElem? (i := 190) rfl)))) (mvT hZ (hw _ (List.mem_of_getElem? (i := 190) rfl))) (mvT hZ (hw _ (List.mem_of_getElem? (i := 189) rfl))) (by decide) (backOf (W := 0) (rm29 l Z a0 hw [] a1 x el lcl h0 n0 Z0 E_a1 Ar_el (by assumption) (by assumption) F_elementData_a1) hZ (hw _ (List.mem_of_getElem? (i := 191) rfl)) (hw _ (List.mem_of_getElem? (i := 89) rfl)) (by decide) (by decide)) q8a q8c (g := (mkF m 11 #[.val (.ref a1), .val (.int (0 : Int32))] [(.int (0 : Int32)), (.ref a1)])) rfl (by rw [hml]; rfl) (Steps.refl _) (argsL := [(.int (0 : Int32))]) (rest := []) (lenOf pd_7 rfl) rfl (by show 2 * 0 + _ ≤ _; exact Nat.le_of_eq rfl) (hb hby d26_11) (fun _ _ => ⟨rfl, e4, (by decide : 0 + 0 ≤ _), (by decide : 0 + 0 ≤ _)⟩)
  dsimp only [Pt.U, Pt.locs, Pt.cells, Pt.slots] at X8 l8 y8 z8 st8 hQ8
  subst y8 z8
  obtain ⟨rfl, Nq8, e8⟩ := hQ8
  have N9 : Fr n0 L8 := by rw [l8]; exact Fr.app N5 Nq8
  have J10 : ∀ t, Steps p.tables e below (T8.setTop (mkF m 14 #[.val (.ref a1), .val (.int (0 : Int32))] [(.ref x)])) t → Steps p.tables e below (s₁.setTop (entryFrame m #[(.ref a1), (.int (0 : Int32))] 2)) t := fun t k => J7 t (st8.trans k)
  obtain ⟨fs, hr, hrun, hended, hW, hsame⟩ := X8.leave (v := some (.ref x)) (fun h => by rw [Bd.returns] at h; cases h)
  refine ⟨_, _, J10 _ ?_, hrun, hended, _, _, rfl, ?_, ⟨_, rfl⟩, hW, hsame.mono (by decide) (by decide)⟩
  · show Steps p.tables e below (T8.setTop (mkF m 14 #[.val (.ref a1), .val (.int (0 : Int32))] [(.ref x)])) _
    jvm_step X8.here [X8.here.top, hx, (hb hby d26_14), X8.method', Bd.returns, Value.isRef, FieldType.isReference]
    first | (intro acts; rw [hr _ acts rfl rfl rfl]) | rw [hr _ _ rfl rfl rfl]
    exact Steps.refl _
  · show Q26 Z a1 x el lcl h0 n0 _ T8.heap _
    rw [e8]
    exact ⟨rfl, N9, rfl⟩
theorem d18_0 : decode jdk_41_method_13_code 0 = .ok (.iload_n 2, 1) := by decide +kernel
theorem d18_1 : decode jdk_41_method_13_code 1 = .ok (.iload_n 0, 1) := by decide +kernel
theorem d18_2 : decode jdk_41_method_13_code 2 = .ok (.ior, 1) := by decide +kernel
theorem d18_3 : decode jdk_41_method_13_code 3 = .ok (.iload_n 1, 1) := by decide +kernel
theorem d18_4 : decode jdk_41_method_13_code 4 = .ok (.ior, 1) := by decide +kernel
theorem d18_5 : decode jdk_41_method_13_code 5 = .ok (.ifCond .lt 10, 3) := by decide +kernel
theorem d18_8 : decode jdk_41_method_13_code 8 = .ok (.iload_n 1, 1) := by decide +kernel
theorem d18_9 : decode jdk_41_method_13_code 9 = .ok (.iload_n 2, 1) := by decide +kernel
theorem d18_10 : decode jdk_41_method_13_code 10 = .ok (.iload_n 0, 1) := by decide +kernel
theorem d18_11 : decode jdk_41_method_13_code 11 = .ok (.isub, 1) := by decide +kernel
theorem d18_12 : decode jdk_41_method_13_code 12 = .ok (.if_icmp .le 11, 3) := by decide +kernel
theorem d18_23 : decode jdk_41_method_13_code 23 = .ok (.iload_n 0, 1) := by decide +kernel
theorem d18_24 : decode jdk_41_method_13_code 24 = .ok (.ireturn, 1) := by decide +kernel
theorem pn_18 : plainName "jdk/internal/util/Preconditions" = true := by first | (simp [plainName, overriddenIn]; done) | decide +kernel
theorem ef_18_xxxn (m : MethodId) (x0 : Int32) (x1 : Int32) (x2 : Int32) : entryFrame m #[(.int x0), (.int x1), (.int x2), .null] 4 = mkF m 0 #[.val (.int x0), .val (.int x1), .val (.int x2), .val .null] [] := by first | (simp [entryFrame, mkF, argsToLocals, Value.category]; done) | rfl
def Q18n (Z : State)  (h0 : Heap) (n0 : Nat) (v : Option Value) (h : Heap) (L : List Loc) : Prop := v = some (.int (0 : Int32)) ∧ Fr n0 L ∧ h = h0
set_option maxRecDepth 65536 in
set_option maxHeartbeats 40000000 in
theorem rm18n (l : Launch) (Z : State) (a0 : Array Value) (hw : ∀ d ∈ tables_1, d.before a0 Z = true) (ws : List Jvm.Cond)  (h0 : Heap) (n0 : Nat) (Z0 : n0 ≤ h0.size) :
    MetFree l (⟨"jdk/internal/util/Preconditions", "checkFromIndexSize", "(IIILjava/util/function/BiFunction;)I"⟩ : MethodName) (head1 (Jvm.Cond.code (⟨"jdk/internal/util/Preconditions", "checkFromIndexSize", "(IIILjava/util/function/BiFunction;)I"⟩ : MethodName) jdk_41_method_13_code 4 (some .int) :: ws) ({ frames := 0, cells := 0, slots := 0, locals := 0 } : Room)) (fun a U => a = #[(.int (0 : Int32)), (.int (1 : Int32)), (.int (256 : Int32)), .null] ∧ Z.Warmed39 U.vm ∧ U.heap = h0) (fun _ _ _ _ _ => True) (fun _ U o U' => ∃ v L, o = .returned v ∧ Q18n Z  h0 n0 v U'.heap L ∧ FrameEnd U o U' L ({ frames := 0, cells := 0, slots := 0, locals := 0 } : Room).cells ({ frames := 0, cells := 0, slots := 0, locals := 0 } : Room).slots) := by
  refine MetFree.of_bodySF (plainFor_of_name pn_18) hisR ?_
  intro p e s m args below meth c s₁ Bd hml0 hP hK
  obtain ⟨rfl, hZ, hh⟩ := hP
  have hx := Bd.exec
  have hby := Bd.bytes
  have hml : c.maxLocals = 4 := hml0
  have hown : s.vm.findClass "jdk/internal/util/Preconditions" = some m.cls := findClass_of_methodNamed Bd.named
  have hnm := (name_of_methodNamed Bd.named Bd.method).1
  have X0 : Stand p l e ({ frames := 0, cells := 0, slots := 0, locals := 0 } : Room) s m #[(.int (0 : Int32)), (.int (1 : Int32)), (.int (256 : Int32)), .null] below meth c s₁ [] 0 0 := Stand.of_body Bd
  have e0 : s₁.heap = h0 := by rw [← hh, Bd.state]; rfl
  have N0 := Fr.nil n0
  have pre0 : ∀ t, Steps p.tables e below (s₁.setTop (mkF m 0 #[.val (.int (0 : Int32)), .val (.int (1 : Int32)), .val (.int (256 : Int32)), .val .null] [])) t → Steps p.tables e below (s₁.setTop (entryFrame m #[(.int (0 : Int32)), (.int (1 : Int32)), (.int (256 : Int32)), .null] 4)) t := fun t k => castTop (ef_18_xxxn m (0 : Int32) (1 : Int32) (256 : Int32)) k
  have J1 : ∀ t, Steps p.tables e below (s₁.setTop (mkF m 24 #[.val (.int (0 : Int32)), .val (.int (1 : Int32)), .val (.int (256 : Int32)), .val .null] [(.int (0 : Int32))])) t → Steps p.tables e below (s₁.setTop (entryFrame m #[(.int (0 : Int32)), (.int (1 : Int32)), (.int (256 : Int32)), .null] 4)) t := fun t k => pre0 t (by
      show Steps p.tables e below (s₁.setTop (mkF m 0 #[.val (.int (0 : Int32)), .val (.int (1 : Int32)), .val (.int (256 : Int32)), .val .null] [])) _
      refine XS.iloadN X0.here hx rfl (hb hby d18_0) rfl ?_
      show Steps p.tables e below (s₁.setTop (mkF m 1 #[.val (.int (0 : Int32)), .val (.int (1 : Int32)), .val (.int (256 : Int32)), .val .null] [(.int (256 : Int32))])) _
      refine XS.iloadN X0.here hx rfl (hb hby d18_1) rfl ?_
      show Steps p.tables e below (s₁.setTop (mkF m 2 #[.val (.int (0 : Int32)), .val (.int (1 : Int32)), .val (.int (256 : Int32)), .val .null] [(.int (0 : Int32)), (.int (256 : Int32))])) _
      refine XS.ior X0.here hx rfl (hb hby d18_2) rfl ?_
      show Steps p.tables e below (s₁.setTop (mkF m 3 #[.val (.int (0 : Int32)), .val (.int (1 : Int32)), .val (.int (256 : Int32)), .val .null] [(.int ((256 : Int32) ||| (0 : Int32)))])) _
      refine XS.iloadN X0.here hx rfl (hb hby d18_3) rfl ?_
      show Steps p.tables e below (s₁.setTop (mkF m 4 #[.val (.int (0 : Int32)), .val (.int (1 : Int32)), .val (.int (256 : Int32)), .val .null] [(.int (1 : Int32)), (.int ((256 : Int32) ||| (0 : Int32)))])) _
      refine XS.ior X0.here hx rfl (hb hby d18_4) rfl ?_
      show Steps p.tables e below (s₁.setTop (mkF m 5 #[.val (.int (0 : Int32)), .val (.int (1 : Int32)), .val (.int (256 : Int32)), .val .null] [(.int (((256 : Int32) ||| (0 : Int32)) ||| (1 : Int32)))])) _
      refine XS.ifNo X0.here hx rfl (hb hby d18_5) rfl ((if0 _ _).trans (flt (by decide)).1) ?_
      show Steps p.tables e below (s₁.setTop (mkF m 8 #[.val (.int (0 : Int32)), .val (.int (1 : Int32)), .val (.int (256 : Int32)), .val .null] [])) _
      refine XS.iloadN X0.here hx rfl (hb hby d18_8) rfl ?_
      show Steps p.tables e below (s₁.setTop (mkF m 9 #[.val (.int (0 : Int32)), .val (.int (1 : Int32)), .val (.int (256 : Int32)), .val .null] [(.int (1 : Int32))])) _
      refine XS.iloadN X0.here hx rfl (hb hby d18_9) rfl ?_
      show Steps p.tables e below (s₁.setTop (mkF m 10 #[.val (.int (0 : Int32)), .val (.int (1 : Int32)), .val (.int (256 : Int32)), .val .null] [(.int (256 : Int32)), (.int (1 : Int32))])) _
      refine XS.iloadN X0.here hx rfl (hb hby d18_10) rfl ?_
      show Steps p.tables e below (s₁.setTop (mkF m 11 #[.val (.int (0 : Int32)), .val (.int (1 : Int32)), .val (.int (256 : Int32)), .val .null] [(.int (0 : Int32)), (.int (256 : Int32)), (.int (1 : Int32))])) _
      refine XS.isub X0.here hx rfl (hb hby d18_11) rfl ?_
      show Steps p.tables e below (s₁.setTop (mkF m 12 #[.val (.int (0 : Int32)), .val (.int (1 : Int32)), .val (.int (256 : Int32)), .val .null] [(.int ((256 : Int32) - (0 : Int32))), (.int (1 : Int32))])) _
      refine XS.icmpYes X0.here hx rfl (pc0 := 12) (pc' := 23) rfl (hb hby d18_12) rfl (flt (by decide)).2.2.2 (by decide) (by decide) ?_
      show Steps p.tables e below (s₁.setTop (mkF m 23 #[.val (.int (0 : Int32)), .val (.int (1 : Int32)), .val (.int (256 : Int32)), .val .null] [])) _
      refine XS.iloadN X0.here hx rfl (hb hby d18_23) rfl ?_
      exact k)
  obtain ⟨fs, hr, hrun, hended, hW, hsame⟩ := X0.leave (v := some (.int (0 : Int32))) (fun h => by rw [Bd.returns] at h; cases h)
  refine ⟨_, _, J1 _ ?_, hrun, hended, _, _, rfl, ?_, ⟨_, rfl⟩, hW, hsame.mono (by decide) (by decide)⟩
  · show Steps p.tables e below (s₁.setTop (mkF m 24 #[.val (.int (0 : Int32)), .val (.int (1 : Int32)), .val (.int (256 : Int32)), .val .null] [(.int (0 : Int32))])) _
    exact retI X0 hx Bd.returns (hb hby d18_24) hr
  · show Q18n Z  h0 n0 _ s₁.heap _
    rw [e0]
    exact ⟨rfl, N0, rfl⟩
theorem ef_18_xxxx (m : MethodId) (x0 : Int32) (x1 : Int32) (x2 : Int32) (x3 : Addr) : entryFrame m #[(.int x0), (.int x1), (.int x2), (.ref x3)] 4 = mkF m 0 #[.val (.int x0), .val (.int x1), .val (.int x2), .val (.ref x3)] [] := by first | (simp [entryFrame, mkF, argsToLocals, Value.category]; done) | rfl
def Q18r (Z : State) (fa : Addr) (h0 : Heap) (n0 : Nat) (v : Option Value) (h : Heap) (L : List Loc) : Prop := v = some (.int (0 : Int32)) ∧ Fr n0 L ∧ h = h0
set_option maxRecDepth 65536 in
set_option maxHeartbeats 40000000 in
theorem rm18r (l : Launch) (Z : State) (a0 : Array Value) (hw : ∀ d ∈ tables_1, d.before a0 Z = true) (ws : List Jvm.Cond) (fa : Addr) (h0 : Heap) (n0 : Nat) (Z0 : n0 ≤ h0.size) :
    MetFree l (⟨"jdk/internal/util/Preconditions", "checkFromIndexSize", "(IIILjava/util/function/BiFunction;)I"⟩ : MethodName) (head1 (Jvm.Cond.code (⟨"jdk/internal/util/Preconditions", "checkFromIndexSize", "(IIILjava/util/function/BiFunction;)I"⟩ : MethodName) jdk_41_method_13_code 4 (some .int) :: ws) ({ frames := 0, cells := 0, slots := 0, locals := 0 } : Room)) (fun a U => a = #[(.int (0 : Int32)), (.int (1 : Int32)), (.int (256 : Int32)), (.ref fa)] ∧ Z.Warmed39 U.vm ∧ U.heap = h0) (fun _ _ _ _ _ => True) (fun _ U o U' => ∃ v L, o = .returned v ∧ Q18r Z fa h0 n0 v U'.heap L ∧ FrameEnd U o U' L ({ frames := 0, cells := 0, slots := 0, locals := 0 } : Room).cells ({ frames := 0, cells := 0, slots := 0, locals := 0 } : Room).slots) := by
  refine MetFree.of_bodySF (plainFor_of_name pn_18) hisR ?_
  intro p e s m args below meth c s₁ Bd hml0 hP hK
  obtain ⟨rfl, hZ, hh⟩ := hP
  have hx := Bd.exec
  have hby := Bd.bytes
  have hml : c.maxLocals = 4 := hml0
  have hown : s.vm.findClass "jdk/internal/util/Preconditions" = some m.cls := findClass_of_methodNamed Bd.named
  have hnm := (name_of_methodNamed Bd.named Bd.method).1
  have X0 : Stand p l e ({ frames := 0, cells := 0, slots := 0, locals := 0 } : Room) s m #[(.int (0 : Int32)), (.int (1 : Int32)), (.int (256 : Int32)), (.ref fa)] below meth c s₁ [] 0 0 := Stand.of_body Bd
  have e0 : s₁.heap = h0 := by rw [← hh, Bd.state]; rfl
  have N0 := Fr.nil n0
  have pre0 : ∀ t, Steps p.tables e below (s₁.setTop (mkF m 0 #[.val (.int (0 : Int32)), .val (.int (1 : Int32)), .val (.int (256 : Int32)), .val (.ref fa)] [])) t → Steps p.tables e below (s₁.setTop (entryFrame m #[(.int (0 : Int32)), (.int (1 : Int32)), (.int (256 : Int32)), (.ref fa)] 4)) t := fun t k => castTop (ef_18_xxxx m (0 : Int32) (1 : Int32) (256 : Int32) fa) k
  have J1 : ∀ t, Steps p.tables e below (s₁.setTop (mkF m 24 #[.val (.int (0 : Int32)), .val (.int (1 : Int32)), .val (.int (256 : Int32)), .val (.ref fa)] [(.int (0 : Int32))])) t → Steps p.tables e below (s₁.setTop (entryFrame m #[(.int (0 : Int32)), (.int (1 : Int32)), (.int (256 : Int32)), (.ref fa)] 4)) t := fun t k => pre0 t (by
      show Steps p.tables e below (s₁.setTop (mkF m 0 #[.val (.int (0 : Int32)), .val (.int (1 : Int32)), .val (.int (256 : Int32)), .val (.ref fa)] [])) _
      refine XS.iloadN X0.here hx rfl (hb hby d18_0) rfl ?_
      show Steps p.tables e below (s₁.setTop (mkF m 1 #[.val (.int (0 : Int32)), .val (.int (1 : Int32)), .val (.int (256 : Int32)), .val (.ref fa)] [(.int (256 : Int32))])) _
      refine XS.iloadN X0.here hx rfl (hb hby d18_1) rfl ?_
      show Steps p.tables e below (s₁.setTop (mkF m 2 #[.val (.int (0 : Int32)), .val (.int (1 : Int32)), .val (.int (256 : Int32)), .val (.ref fa)] [(.int (0 : Int32)), (.int (256 : Int32))])) _
      refine XS.ior X0.here hx rfl (hb hby d18_2) rfl ?_
      show Steps p.tables e below (s₁.setTop (mkF m 3 #[.val (.int (0 : Int32)), .val (.int (1 : Int32)), .val (.int (256 : Int32)), .val (.ref fa)] [(.int ((256 : Int32) ||| (0 : Int32)))])) _
      refine XS.iloadN X0.here hx rfl (hb hby d18_3) rfl ?_
      show Steps p.tables e below (s₁.setTop (mkF m 4 #[.val (.int (0 : Int32)), .val (.int (1 : Int32)), .val (.int (256 : Int32)), .val (.ref fa)] [(.int (1 : Int32)), (.int ((256 : Int32) ||| (0 : Int32)))])) _
      refine XS.ior X0.here hx rfl (hb hby d18_4) rfl ?_
      show Steps p.tables e below (s₁.setTop (mkF m 5 #[.val (.int (0 : Int32)), .val (.int (1 : Int32)), .val (.int (256 : Int32)), .val (.ref fa)] [(.int (((256 : Int32) ||| (0 : Int32)) ||| (1 : Int32)))])) _
      refine XS.ifNo X0.here hx rfl (hb hby d18_5) rfl ((if0 _ _).trans (flt (by decide)).1) ?_
      show Steps p.tables e below (s₁.setTop (mkF m 8 #[.val (.int (0 : Int32)), .val (.int (1 : Int32)), .val (.int (256 : Int32)), .val (.ref fa)] [])) _
      refine XS.iloadN X0.here hx rfl (hb hby d18_8) rfl ?_
      show Steps p.tables e below (s₁.setTop (mkF m 9 #[.val (.int (0 : Int32)), .val (.int (1 : Int32)), .val (.int (256 : Int32)), .val (.ref fa)] [(.int (1 : Int32))])) _
      refine XS.iloadN X0.here hx rfl (hb hby d18_9) rfl ?_
      show Steps p.tables e below (s₁.setTop (mkF m 10 #[.val (.int (0 : Int32)), .val (.int (1 : Int32)), .val (.int (256 : Int32)), .val (.ref fa)] [(.int (256 : Int32)), (.int (1 : Int32))])) _
      refine XS.iloadN X0.here hx rfl (hb hby d18_10) rfl ?_
      show Steps p.tables e below (s₁.setTop (mkF m 11 #[.val (.int (0 : Int32)), .val (.int (1 : Int32)), .val (.int (256 : Int32)), .val (.ref fa)] [(.int (0 : Int32)), (.int (256 : Int32)), (.int (1 : Int32))])) _
      refine XS.isub X0.here hx rfl (hb hby d18_11) rfl ?_
      show Steps p.tables e below (s₁.setTop (mkF m 12 #[.val (.int (0 : Int32)), .val (.int (1 : Int32)), .val (.int (256 : Int32)), .val (.ref fa)] [(.int ((256 : Int32) - (0 : Int32))), (.int (1 : Int32))])) _
      refine XS.icmpYes X0.here hx rfl (pc0 := 12) (pc' := 23) rfl (hb hby d18_12) rfl (flt (by decide)).2.2.2 (by decide) (by decide) ?_
      show Steps p.tables e below (s₁.setTop (mkF m 23 #[.val (.int (0 : Int32)), .val (.int (1 : Int32)), .val (.int (256 : Int32)), .val (.ref fa)] [])) _
      refine XS.iloadN X0.here hx rfl (hb hby d18_23) rfl ?_
      exact k)
  obtain ⟨fs, hr, hrun, hended, hW, hsame⟩ := X0.leave (v := some (.int (0 : Int32))) (fun h => by rw [Bd.returns] at h; cases h)
  refine ⟨_, _, J1 _ ?_, hrun, hended, _, _, rfl, ?_, ⟨_, rfl⟩, hW, hsame.mono (by decide) (by decide)⟩
  · show Steps p.tables e below (s₁.setTop (mkF m 24 #[.val (.int (0 : Int32)), .val (.int (1 : Int32)), .val (.int (256 : Int32)), .val (.ref fa)] [(.int (0 : Int32))])) _
    exact retI X0 hx Bd.returns (hb hby d18_24) hr
  · show Q18r Z fa h0 n0 _ s₁.heap _
    rw [e0]
    exact ⟨rfl, N0, rfl⟩
theorem d17_0 : decode jdk_42_method_157_code 0 = .ok (.iload_n 0, 1) := by decide +kernel
theorem d17_1 : decode jdk_42_method_157_code 1 = .ok (.iload_n 1, 1) := by decide +kernel
theorem d17_2 : decode jdk_42_method_157_code 2 = .ok (.iload_n 2, 1) := by decide +kernel
theorem d17_3 : decode jdk_42_method_157_code 3 = .ok (.getstatic 1053, 3) := by decide +kernel
theorem d17_6 : decode jdk_42_method_157_code 6 = .ok (.invokestatic 1065, 3) := by decide +kernel
theorem pd_8 : parseMethodDescriptor "(IIILjava/util/function/BiFunction;)I" = some ⟨[.int, .int, .int, (.object "java/util/function/BiFunction")], some .int⟩ := by decide +kernel
theorem d17_9 : decode jdk_42_method_157_code 9 = .ok (.ireturn, 1) := by decide +kernel
theorem pn_17 : plainName "java/lang/String" = true := by first | (simp [plainName, overriddenIn]; done) | decide +kernel
theorem ef_17_xxx (m : MethodId) (x0 : Int32) (x1 : Int32) (x2 : Int32) : entryFrame m #[(.int x0), (.int x1), (.int x2)] 3 = mkF m 0 #[.val (.int x0), .val (.int x1), .val (.int x2)] [] := by first | (simp [entryFrame, mkF, argsToLocals, Value.category]; done) | rfl
def Q17 (Z : State) (fm : Value) (h0 : Heap) (n0 : Nat) (v : Option Value) (h : Heap) (L : List Loc) : Prop := v = some (.int (0 : Int32)) ∧ Fr n0 L ∧ h = h0
set_option maxRecDepth 65536 in
set_option maxHeartbeats 40000000 in
theorem rm17 (l : Launch) (Z : State) (a0 : Array Value) (hw : ∀ d ∈ tables_1, d.before a0 Z = true) (ws : List Jvm.Cond) (fm : Value) (h0 : Heap) (n0 : Nat) (Z0 : n0 ≤ h0.size) (O : Old Z n0 h0) (Zs_SIOOBE_FORMATTER : Sta Z Z.heap "jdk/internal/util/Preconditions" "SIOOBE_FORMATTER" "Ljava/util/function/BiFunction;" fm) (hfm : fm.isRef = true) :
    MetFree l (⟨"java/lang/String", "checkBoundsOffCount", "(III)I"⟩ : MethodName) (head1 (Jvm.Cond.code (⟨"java/lang/String", "checkBoundsOffCount", "(III)I"⟩ : MethodName) jdk_42_method_157_code 3 (some .int) :: ws) ({ frames := 1, cells := 0, slots := 0, locals := 15 } : Room)) (fun a U => a = #[(.int (0 : Int32)), (.int (1 : Int32)), (.int (256 : Int32))] ∧ Z.Warmed39 U.vm ∧ U.heap = h0) (fun _ _ _ _ _ => True) (fun _ U o U' => ∃ v L, o = .returned v ∧ Q17 Z fm h0 n0 v U'.heap L ∧ FrameEnd U o U' L ({ frames := 1, cells := 0, slots := 0, locals := 15 } : Room).cells ({ frames := 1, cells := 0, slots := 0, locals := 15 } : Room).slots) := by
  refine MetFree.of_bodySF (plainFor_of_name pn_17) hisR ?_
  intro p e s m args below meth c s₁ Bd hml0 hP hK
  obtain ⟨rfl, hZ, hh⟩ := hP
  have hx := Bd.exec
  have hby := Bd.bytes
  have hml : c.maxLocals = 3 := hml0
  have hown : s.vm.findClass "java/lang/String" = some m.cls := findClass_of_methodNamed Bd.named
  have hnm := (name_of_methodNamed Bd.named Bd.method).1
  have X0 : Stand p l e ({ frames := 1, cells := 0, slots := 0, locals := 15 } : Room) s m #[(.int (0 : Int32)), (.int (1 : Int32)), (.int (256 : Int32))] below meth c s₁ [] 0 0 := Stand.of_body Bd
  have e0 : s₁.heap = h0 := by rw [← hh, Bd.state]; rfl
  have N0 := Fr.nil n0
  have pre0 : ∀ t, Steps p.tables e below (s₁.setTop (mkF m 0 #[.val (.int (0 : Int32)), .val (.int (1 : Int32)), .val (.int (256 : Int32))] [])) t → Steps p.tables e below (s₁.setTop (entryFrame m #[(.int (0 : Int32)), (.int (1 : Int32)), (.int (256 : Int32))] 3)) t := fun t k => castTop (ef_17_xxx m (0 : Int32) (1 : Int32) (256 : Int32)) k
  have J1 : ∀ t, Steps p.tables e below (s₁.setTop (mkF m 3 #[.val (.int (0 : Int32)), .val (.int (1 : Int32)), .val (.int (256 : Int32))] [(.int (256 : Int32)), (.int (1 : Int32)), (.int (0 : Int32))])) t → Steps p.tables e below (s₁.setTop (entryFrame m #[(.int (0 : Int32)), (.int (1 : Int32)), (.int (256 : Int32))] 3)) t := fun t k => pre0 t (by
      show Steps p.tables e below (s₁.setTop (mkF m 0 #[.val (.int (0 : Int32)), .val (.int (1 : Int32)), .val (.int (256 : Int32))] [])) _
      refine XS.iloadN X0.here hx rfl (hb hby d17_0) rfl ?_
      show Steps p.tables e below (s₁.setTop (mkF m 1 #[.val (.int (0 : Int32)), .val (.int (1 : Int32)), .val (.int (256 : Int32))] [(.int (0 : Int32))])) _
      refine XS.iloadN X0.here hx rfl (hb hby d17_1) rfl ?_
      show Steps p.tables e below (s₁.setTop (mkF m 2 #[.val (.int (0 : Int32)), .val (.int (1 : Int32)), .val (.int (256 : Int32))] [(.int (1 : Int32)), (.int (0 : Int32))])) _
      refine XS.iloadN X0.here hx rfl (hb hby d17_2) rfl ?_
      exact k)
  obtain ⟨T2, X2, e2, st2⟩ := getS2 X0 hx hZ hown (host := "") (Or.inl (hw _ (List.mem_of_getElem? (i := 122) rfl))) Via.refl e0 (Zs_SIOOBE_FORMATTER.ext O.2) (g := (mkF m 3 #[.val (.int (0 : Int32)), .val (.int (1 : Int32)), .val (.int (256 : Int32))] [(.int (256 : Int32)), (.int (1 : Int32)), (.int (0 : Int32))])) rfl (hb hby d17_3)
  have J3 : ∀ t, Steps p.tables e below (T2.setTop (mkF m 6 #[.val (.int (0 : Int32)), .val (.int (1 : Int32)), .val (.int (256 : Int32))] [fm, (.int (256 : Int32)), (.int (1 : Int32)), (.int (0 : Int32))])) t → Steps p.tables e below (s₁.setTop (entryFrame m #[(.int (0 : Int32)), (.int (1 : Int32)), (.int (256 : Int32))] 3)) t := fun t k => J1 t (st2 t k)
  rcases ref_cases hfm with qf | ⟨fa, qf⟩
  ·
    have J4 : ∀ t, Steps p.tables e below (T2.setTop (mkF m 6 #[.val (.int (0 : Int32)), .val (.int (1 : Int32)), .val (.int (256 : Int32))] [.null, (.int (256 : Int32)), (.int (1 : Int32)), (.int (0 : Int32))])) t → Steps p.tables e below (s₁.setTop (entryFrame m #[(.int (0 : Int32)), (.int (1 : Int32)), (.int (256 : Int32))] 3)) t := fun t k => J3 t (by rw [qf]; exact k)
    obtain ⟨_, _, ⟨T5, L5, k5, n5⟩, -, X5, ⟨Lc5, hQ5, l5, y5, z5⟩, st5⟩ := Jvm.LawKit.callS X2 hx (y := (⟨"jdk/internal/util/Preconditions", "checkFromIndexSize", "(IIILjava/util/function/BiFunction;)I"⟩ : MethodName)) hown (mvT hZ (hw _ (List.mem_of_getElem? (i := 124) rfl))) (mvT hZ (hw _ (List.mem_of_getElem? (i := 125) rfl))) (mvT hZ (hw _ (List.mem_of_getElem? (i := 123) rfl))) (mvT hZ (hw _ (List.mem_of_getElem? (i := 126) rfl))) (by decide) (backOf (W := 0) (rm18n l Z a0 hw []  h0 n0 Z0 ) hZ (hw _ (List.mem_of_getElem? (i := 126) rfl)) (hw _ (List.mem_of_getElem? (i := 123) rfl)) (by decide) (by decide)) (g := (mkF m 6 #[.val (.int (0 : Int32)), .val (.int (1 : Int32)), .val (.int (256 : Int32))] [.null, (.int (256 : Int32)), (.int (1 : Int32)), (.int (0 : Int32))])) rfl (by rw [hml]; rfl) (argsL := [(.int (0 : Int32)), (.int (1 : Int32)), (.int (256 : Int32)), .null]) (rest := []) (lenOf pd_8 rfl) rfl (by show 2 * 0 + _ ≤ _; exact Nat.le_of_eq rfl) (hb hby d17_6) (fun _ _ => ⟨rfl, e2, (by decide : 0 + 0 ≤ _), (by decide : 0 + 0 ≤ _)⟩)
    dsimp only [Pt.U, Pt.locs, Pt.cells, Pt.slots] at X5 l5 y5 z5 st5 hQ5
    subst y5 z5
    obtain ⟨rfl, Nq5, e5⟩ := hQ5
    have N6 : Fr n0 L5 := by rw [l5]; exact Fr.app N0 Nq5
    have J7 : ∀ t, Steps p.tables e below (T5.setTop (mkF m 9 #[.val (.int (0 : Int32)), .val (.int (1 : Int32)), .val (.int (256 : Int32))] [(.int (0 : Int32))])) t → Steps p.tables e below (s₁.setTop (entryFrame m #[(.int (0 : Int32)), (.int (1 : Int32)), (.int (256 : Int32))] 3)) t := fun t k => J4 t (st5 t k)
    obtain ⟨fs, hr, hrun, hended, hW, hsame⟩ := X5.leave (v := some (.int (0 : Int32))) (fun h => by rw [Bd.returns] at h; cases h)
    refine ⟨_, _, J7 _ ?_, hrun, hended, _, _, rfl, ?_, ⟨_, rfl⟩, hW, hsame.mono (by decide) (by decide)⟩
    · show Steps p.tables e below (T5.setTop (mkF m 9 #[.val (.int (0 : Int32)), .val (.int (1 : Int32)), .val (.int (256 : Int32))] [(.int (0 : Int32))])) _
      exact retI X5 hx Bd.returns (hb hby d17_9) hr
    · show Q17 Z fm h0 n0 _ T5.heap _
      rw [e5]
      exact ⟨rfl, N6, rfl⟩
  ·
    have J8 : ∀ t, Steps p.tables e below (T2.setTop (mkF m 6 #[.val (.int (0 : Int32)), .val (.int (1 : Int32)), .val (.int (256 : Int32))] [(.ref fa), (.int (256 : Int32)), (.int (1 : Int32)), (.int (0 : Int32))])) t → Steps p.tables e below (s₁.setTop (entryFrame m #[(.int (0 : Int32)), (.int (1 : Int32)), (.int (256 : Int32))] 3)) t := fun t k => J3 t (by rw [qf]; exact k)
    obtain ⟨_, _, ⟨T9, L9, k9, n9⟩, -, X9, ⟨Lc9, hQ9, l9, y9, z9⟩, st9⟩ := Jvm.LawKit.callS X2 hx (y := (⟨"jdk/internal/util/Preconditions", "checkFromIndexSize", "(IIILjava/util/function/BiFunction;)I"⟩ : MethodName)) hown (mvT hZ (hw _ (List.mem_of_getElem? (i := 124) rfl))) (mvT hZ (hw _ (List.mem_of_getElem? (i := 125) rfl))) (mvT hZ (hw _ (List.mem_of_getElem? (i := 123) rfl))) (mvT hZ (hw _ (List.mem_of_getElem? (i := 126) rfl))) (by decide) (backOf (W := 0) (rm18r l Z a0 hw [] fa h0 n0 Z0 ) hZ (hw _ (List.mem_of_getElem? (i := 126) rfl)) (hw _ (List.mem_of_getElem? (i := 123) rfl)) (by decide) (by decide)) (g := (mkF m 6 #[.val (.int (0 : Int32)), .val (.int (1 : Int32)), .val (.int (256 : Int32))] [(.ref fa), (.int (256 : Int32)), (.int (1 : Int32)), (.int (0 : Int32))])) rfl (by rw [hml]; rfl) (argsL := [(.int (0 : Int32)), (.int (1 : Int32)), (.int (256 : Int32)), (.ref fa)]) (rest := []) (lenOf pd_8 rfl) rfl (by show 2 * 0 + _ ≤ _; exact Nat.le_of_eq rfl) (hb hby d17_6) (fun _ _ => ⟨rfl, e2, (by decide : 0 + 0 ≤ _), (by decide : 0 + 0 ≤ _)⟩)
    dsimp only [Pt.U, Pt.locs, Pt.cells, Pt.slots] at X9 l9 y9 z9 st9 hQ9
    subst y9 z9
    obtain ⟨rfl, Nq9, e9⟩ := hQ9
    have N10 : Fr n0 L9 := by rw [l9]; exact Fr.app N0 Nq9
    have J11 : ∀ t, Steps p.tables e below (T9.setTop (mkF m 9 #[.val (.int (0 : Int32)), .val (.int (1 : Int32)), .val (.int (256 : Int32))] [(.int (0 : Int32))])) t → Steps p.tables e below (s₁.setTop (entryFrame m #[(.int (0 : Int32)), (.int (1 : Int32)), (.int (256 : Int32))] 3)) t := fun t k => J8 t (st9 t k)
    obtain ⟨fs, hr, hrun, hended, hW, hsame⟩ := X9.leave (v := some (.int (0 : Int32))) (fun h => by rw [Bd.returns] at h; cases h)
    refine ⟨_, _, J11 _ ?_, hrun, hended, _, _, rfl, ?_, ⟨_, rfl⟩, hW, hsame.mono (by decide) (by decide)⟩
    · show Steps p.tables e below (T9.setTop (mkF m 9 #[.val (.int (0 : Int32)), .val (.int (1 : Int32)), .val (.int (256 : Int32))] [(.int (0 : Int32))])) _
      exact retI X9 hx Bd.returns (hb hby d17_9) hr
    · show Q17 Z fm h0 n0 _ T9.heap _
      rw [e9]
      exact ⟨rfl, N10, rfl⟩
theorem d16_0 : decode jdk_42_method_5_code 0 = .ok (.iload_n 1, 1) := by decide +kernel
theorem d16_1 : decode jdk_42_method_5_code 1 = .ok (.iload_n 2, 1) := by decide +kernel
theorem d16_2 : decode jdk_42_method_5_code 2 = .ok (.aload_n 0, 1) := by decide +kernel
theorem d16_3 : decode jdk_42_method_5_code 3 = .ok (.arraylength, 1) := by decide +kernel
theorem d16_4 : decode jdk_42_method_5_code 4 = .ok (.invokestatic 34, 3) := by decide +kernel
theorem pd_9 : parseMethodDescriptor "(III)I" = some ⟨[.int, .int, .int], some .int⟩ := by decide +kernel
theorem d16_7 : decode jdk_42_method_5_code 7 = .ok (.pop, 1) := by decide +kernel
theorem d16_8 : decode jdk_42_method_5_code 8 = .ok (.aconst_null, 1) := by decide +kernel
theorem d16_9 : decode jdk_42_method_5_code 9 = .ok (.areturn, 1) := by decide +kernel
theorem pn_16 : plainName "java/lang/String" = true := by first | (simp [plainName, overriddenIn]; done) | decide +kernel
theorem ef_16_xxx (m : MethodId) (x0 : Addr) (x1 : Int32) (x2 : Int32) : entryFrame m #[(.ref x0), (.int x1), (.int x2)] 3 = mkF m 0 #[.val (.ref x0), .val (.int x1), .val (.int x2)] [] := by first | (simp [entryFrame, mkF, argsToLocals, Value.category]; done) | rfl
def Q16 (Z : State) (ca : Addr) (ccl : Cell) (fm : Value) (h0 : Heap) (n0 : Nat) (v : Option Value) (h : Heap) (L : List Loc) : Prop := v = some .null ∧ Fr n0 L ∧ h = h0
set_option maxRecDepth 65536 in
set_option maxHeartbeats 40000000 in
theorem rm16 (l : Launch) (Z : State) (a0 : Array Value) (hw : ∀ d ∈ tables_1, d.before a0 Z = true) (ws : List Jvm.Cond) (ca : Addr) (ccl : Cell) (fm : Value) (h0 : Heap) (n0 : Nat) (Z0 : n0 ≤ h0.size) (Ar_ca : Arr Z h0 ca ccl .char) (hcz : ccl.slots.size = 256) (O : Old Z n0 h0) (Zs_SIOOBE_FORMATTER : Sta Z Z.heap "jdk/internal/util/Preconditions" "SIOOBE_FORMATTER" "Ljava/util/function/BiFunction;" fm) (hfm : fm.isRef = true) :
    MetFree l (⟨"java/lang/String", "rangeCheck", "([CII)Ljava/lang/Void;"⟩ : MethodName) (head1 (Jvm.Cond.code (⟨"java/lang/String", "rangeCheck", "([CII)Ljava/lang/Void;"⟩ : MethodName) jdk_42_method_5_code 3 (some (.object "java/lang/Void")) :: ws) ({ frames := 2, cells := 0, slots := 0, locals := 29 } : Room)) (fun a U => a = #[(.ref ca), (.int (0 : Int32)), (.int (1 : Int32))] ∧ Z.Warmed39 U.vm ∧ U.heap = h0) (fun _ _ _ _ _ => True) (fun _ U o U' => ∃ v L, o = .returned v ∧ Q16 Z ca ccl fm h0 n0 v U'.heap L ∧ FrameEnd U o U' L ({ frames := 2, cells := 0, slots := 0, locals := 29 } : Room).cells ({ frames := 2, cells := 0, slots := 0, locals := 29 } : Room).slots) := by
  refine MetFree.of_bodySF (plainFor_of_name pn_16) hisR ?_
  intro p e s m args below meth c s₁ Bd hml0 hP hK
  obtain ⟨rfl, hZ, hh⟩ := hP
  have hx := Bd.exec
  have hby := Bd.bytes
  have hml : c.maxLocals = 3 := hml0
  have hown : s.vm.findClass "java/lang/String" = some m.cls := findClass_of_methodNamed Bd.named
  have hnm := (name_of_methodNamed Bd.named Bd.method).1
  have X0 : Stand p l e ({ frames := 2, cells := 0, slots := 0, locals := 29 } : Room) s m #[(.ref ca), (.int (0 : Int32)), (.int (1 : Int32))] below meth c s₁ [] 0 0 := Stand.of_body Bd
  have e0 : s₁.heap = h0 := by rw [← hh, Bd.state]; rfl
  have N0 := Fr.nil n0
  have pre0 : ∀ t, Steps p.tables e below (s₁.setTop (mkF m 0 #[.val (.ref ca), .val (.int (0 : Int32)), .val (.int (1 : Int32))] [])) t → Steps p.tables e below (s₁.setTop (entryFrame m #[(.ref ca), (.int (0 : Int32)), (.int (1 : Int32))] 3)) t := fun t k => castTop (ef_16_xxx m ca (0 : Int32) (1 : Int32)) k
  have J1 : ∀ t, Steps p.tables e below (s₁.setTop (mkF m 4 #[.val (.ref ca), .val (.int (0 : Int32)), .val (.int (1 : Int32))] [(.int (256 : Int32)), (.int (1 : Int32)), (.int (0 : Int32))])) t → Steps p.tables e below (s₁.setTop (entryFrame m #[(.ref ca), (.int (0 : Int32)), (.int (1 : Int32))] 3)) t := fun t k => pre0 t (by
      show Steps p.tables e below (s₁.setTop (mkF m 0 #[.val (.ref ca), .val (.int (0 : Int32)), .val (.int (1 : Int32))] [])) _
      refine XS.iloadN X0.here hx rfl (hb hby d16_0) rfl ?_
      show Steps p.tables e below (s₁.setTop (mkF m 1 #[.val (.ref ca), .val (.int (0 : Int32)), .val (.int (1 : Int32))] [(.int (0 : Int32))])) _
      refine XS.iloadN X0.here hx rfl (hb hby d16_1) rfl ?_
      show Steps p.tables e below (s₁.setTop (mkF m 2 #[.val (.ref ca), .val (.int (0 : Int32)), .val (.int (1 : Int32))] [(.int (1 : Int32)), (.int (0 : Int32))])) _
      refine XS.aloadN X0.here hx rfl (hb hby d16_2) rfl rfl ?_
      show Steps p.tables e below (s₁.setTop (mkF m 3 #[.val (.ref ca), .val (.int (0 : Int32)), .val (.int (1 : Int32))] [(.ref ca), (.int (1 : Int32)), (.int (0 : Int32))])) _
      refine X0.arraylength hx (cell := ccl) (by rw [e0]; exact Ar_ca.1) (State.isArrayOf_alike hZ.alike Ar_ca.2.1) (g := (mkF m 3 #[.val (.ref ca), .val (.int (0 : Int32)), .val (.int (1 : Int32))] [(.ref ca), (.int (1 : Int32)), (.int (0 : Int32))])) rfl (rest := [(.int (1 : Int32)), (.int (0 : Int32))]) rfl (hb hby d16_3) _ ?_
      rw [(show ccl.slots.size.toInt32 = (256 : Int32) from by rw [hcz]; rfl)]
      exact k)
  obtain ⟨_, _, ⟨T2, L2, k2, n2⟩, -, X2, ⟨Lc2, hQ2, l2, y2, z2⟩, st2⟩ := Jvm.LawKit.callS X0 hx (y := (⟨"java/lang/String", "checkBoundsOffCount", "(III)I"⟩ : MethodName)) hown (mvT hZ (hw _ (List.mem_of_getElem? (i := 119) rfl))) (mvT hZ (hw _ (List.mem_of_getElem? (i := 120) rfl))) (mvT hZ (hw _ (List.mem_of_getElem? (i := 4) rfl))) (mvT hZ (hw _ (List.mem_of_getElem? (i := 121) rfl))) (by decide) (backOf (W := 0) (rm17 l Z a0 hw [] fm h0 n0 Z0 O Zs_SIOOBE_FORMATTER (by assumption)) hZ (hw _ (List.mem_of_getElem? (i := 121) rfl)) (hw _ (List.mem_of_getElem? (i := 4) rfl)) (by decide) (by decide)) (g := (mkF m 4 #[.val (.ref ca), .val (.int (0 : Int32)), .val (.int (1 : Int32))] [(.int (256 : Int32)), (.int (1 : Int32)), (.int (0 : Int32))])) rfl (by rw [hml]; rfl) (argsL := [(.int (0 : Int32)), (.int (1 : Int32)), (.int (256 : Int32))]) (rest := []) (lenOf pd_9 rfl) rfl (by show 2 * 0 + _ ≤ _; exact Nat.le_of_eq rfl) (hb hby d16_4) (fun _ _ => ⟨rfl, e0, (by decide : 0 + 0 ≤ _), (by decide : 0 + 0 ≤ _)⟩)
  dsimp only [Pt.U, Pt.locs, Pt.cells, Pt.slots] at X2 l2 y2 z2 st2 hQ2
  subst y2 z2
  obtain ⟨rfl, Nq2, e2⟩ := hQ2
  have N3 : Fr n0 L2 := by rw [l2]; exact Fr.app N0 Nq2
  have J4 : ∀ t, Steps p.tables e below (T2.setTop (mkF m 7 #[.val (.ref ca), .val (.int (0 : Int32)), .val (.int (1 : Int32))] [(.int (0 : Int32))])) t → Steps p.tables e below (s₁.setTop (entryFrame m #[(.ref ca), (.int (0 : Int32)), (.int (1 : Int32))] 3)) t := fun t k => J1 t (st2 t k)
  have J5 : ∀ t, Steps p.tables e below (T2.setTop (mkF m 9 #[.val (.ref ca), .val (.int (0 : Int32)), .val (.int (1 : Int32))] [.null])) t → Steps p.tables e below (s₁.setTop (entryFrame m #[(.ref ca), (.int (0 : Int32)), (.int (1 : Int32))] 3)) t := fun t k => J4 t (by
      show Steps p.tables e below (T2.setTop (mkF m 7 #[.val (.ref ca), .val (.int (0 : Int32)), .val (.int (1 : Int32))] [(.int (0 : Int32))])) _
      refine XS.pop X2.here hx rfl (hb hby d16_7) rfl rfl ?_
      show Steps p.tables e below (T2.setTop (mkF m 8 #[.val (.ref ca), .val (.int (0 : Int32)), .val (.int (1 : Int32))] [])) _
      refine XS.aconstNull X2.here hx rfl (hb hby d16_8) ?_
      exact k)
  obtain ⟨fs, hr, hrun, hended, hW, hsame⟩ := X2.leave (v := some .null) (fun h => by rw [Bd.returns] at h; cases h)
  refine ⟨_, _, J5 _ ?_, hrun, hended, _, _, rfl, ?_, ⟨_, rfl⟩, hW, hsame.mono (by decide) (by decide)⟩
  · show Steps p.tables e below (T2.setTop (mkF m 9 #[.val (.ref ca), .val (.int (0 : Int32)), .val (.int (1 : Int32))] [.null])) _
    jvm_step X2.here [X2.here.top, hx, (hb hby d16_9), X2.method', Bd.returns, Value.isRef, FieldType.isReference]
    first | (intro acts; rw [hr _ acts rfl rfl rfl]) | rw [hr _ _ rfl rfl rfl]
    exact Steps.refl _
  · show Q16 Z ca ccl fm h0 n0 _ T2.heap _
    rw [e2]
    exact ⟨rfl, N3, rfl⟩
theorem d38_0 : decode jdk_52_method_3_code 0 = .ok (.iload_n 0, 1) := by decide +kernel
theorem d38_1 : decode jdk_52_method_3_code 1 = .ok (.ifCond .ge 11, 3) := by decide +kernel
theorem d38_12 : decode jdk_52_method_3_code 12 = .ok (.iload_n 0, 1) := by decide +kernel
theorem d38_13 : decode jdk_52_method_3_code 13 = .ok (.ldc 20, 2) := by decide +kernel
theorem d38_15 : decode jdk_52_method_3_code 15 = .ok (.if_icmp .lt 40, 3) := by decide +kernel
theorem d38_55 : decode jdk_52_method_3_code 55 = .ok (.iload_n 0, 1) := by decide +kernel
theorem d38_56 : decode jdk_52_method_3_code 56 = .ok (.iconst 1, 1) := by decide +kernel
theorem d38_57 : decode jdk_52_method_3_code 57 = .ok (.ishl, 1) := by decide +kernel
theorem d38_58 : decode jdk_52_method_3_code 58 = .ok (.ireturn, 1) := by decide +kernel
theorem pn_38 : plainName "java/lang/StringUTF16" = true := by first | (simp [plainName, overriddenIn]; done) | decide +kernel
theorem ef_38_x (m : MethodId) (x0 : Int32) : entryFrame m #[(.int x0)] 1 = mkF m 0 #[.val (.int x0)] [] := by first | (simp [entryFrame, mkF, argsToLocals, Value.category]; done) | rfl
def Q38 (Z : State)  (h0 : Heap) (n0 : Nat) (v : Option Value) (h : Heap) (L : List Loc) : Prop := v = some (.int ((1 : Int32) <<< ((1 : Int32) &&& 31))) ∧ Fr n0 L ∧ h = h0
set_option maxRecDepth 65536 in
set_option maxHeartbeats 40000000 in
theorem rm38 (l : Launch) (Z : State) (a0 : Array Value) (hw : ∀ d ∈ tables_1, d.before a0 Z = true) (ws : List Jvm.Cond)  (h0 : Heap) (n0 : Nat) (Z0 : n0 ≤ h0.size) :
    MetFree l (⟨"java/lang/StringUTF16", "newBytesLength", "(I)I"⟩ : MethodName) (head1 (Jvm.Cond.code (⟨"java/lang/StringUTF16", "newBytesLength", "(I)I"⟩ : MethodName) jdk_52_method_3_code 1 (some .int) :: ws) ({ frames := 0, cells := 0, slots := 0, locals := 0 } : Room)) (fun a U => a = #[(.int (1 : Int32))] ∧ Z.Warmed39 U.vm ∧ U.heap = h0) (fun _ _ _ _ _ => True) (fun _ U o U' => ∃ v L, o = .returned v ∧ Q38 Z  h0 n0 v U'.heap L ∧ FrameEnd U o U' L ({ frames := 0, cells := 0, slots := 0, locals := 0 } : Room).cells ({ frames := 0, cells := 0, slots := 0, locals := 0 } : Room).slots) := by
  refine MetFree.of_bodySF (plainFor_of_name pn_38) hisR ?_
  intro p e s m args below meth c s₁ Bd hml0 hP hK
  obtain ⟨rfl, hZ, hh⟩ := hP
  have hx := Bd.exec
  have hby := Bd.bytes
  have hml : c.maxLocals = 1 := hml0
  have hown : s.vm.findClass "java/lang/StringUTF16" = some m.cls := findClass_of_methodNamed Bd.named
  have hnm := (name_of_methodNamed Bd.named Bd.method).1
  have X0 : Stand p l e ({ frames := 0, cells := 0, slots := 0, locals := 0 } : Room) s m #[(.int (1 : Int32))] below meth c s₁ [] 0 0 := Stand.of_body Bd
  have e0 : s₁.heap = h0 := by rw [← hh, Bd.state]; rfl
  have N0 := Fr.nil n0
  have pre0 : ∀ t, Steps p.tables e below (s₁.setTop (mkF m 0 #[.val (.int (1 : Int32))] [])) t → Steps p.tables e below (s₁.setTop (entryFrame m #[(.int (1 : Int32))] 1)) t := fun t k => castTop (ef_38_x m (1 : Int32)) k
  have J1 : ∀ t, Steps p.tables e below (s₁.setTop (mkF m 58 #[.val (.int (1 : Int32))] [(.int ((1 : Int32) <<< ((1 : Int32) &&& 31)))])) t → Steps p.tables e below (s₁.setTop (entryFrame m #[(.int (1 : Int32))] 1)) t := fun t k => pre0 t (by
      show Steps p.tables e below (s₁.setTop (mkF m 0 #[.val (.int (1 : Int32))] [])) _
      refine XS.iloadN X0.here hx rfl (hb hby d38_0) rfl ?_
      show Steps p.tables e below (s₁.setTop (mkF m 1 #[.val (.int (1 : Int32))] [(.int (1 : Int32))])) _
      refine XS.ifYes X0.here hx rfl (pc0 := 1) (pc' := 12) rfl (hb hby d38_1) rfl ((if0 _ _).trans (flt (by decide)).2.1) (by decide) (by decide) ?_
      show Steps p.tables e below (s₁.setTop (mkF m 12 #[.val (.int (1 : Int32))] [])) _
      refine XS.iloadN X0.here hx rfl (hb hby d38_12) rfl ?_
      show Steps p.tables e below (s₁.setTop (mkF m 13 #[.val (.int (1 : Int32))] [(.int (1 : Int32))])) _
      refine X0.ldcInt hx hown (mvT hZ (hw _ (List.mem_of_getElem? (i := 224) rfl))) (g := (mkF m 13 #[.val (.int (1 : Int32))] [(.int (1 : Int32))])) rfl (hb hby d38_13) _ ?_
      show Steps p.tables e below (s₁.setTop (mkF m 15 #[.val (.int (1 : Int32))] [(.int (1073741823 : Int32)), (.int (1 : Int32))])) _
      refine XS.icmpYes X0.here hx rfl (pc0 := 15) (pc' := 55) rfl (hb hby d38_15) rfl (tlt (by decide)).1 (by decide) (by decide) ?_
      show Steps p.tables e below (s₁.setTop (mkF m 55 #[.val (.int (1 : Int32))] [])) _
      refine XS.iloadN X0.here hx rfl (hb hby d38_55) rfl ?_
      show Steps p.tables e below (s₁.setTop (mkF m 56 #[.val (.int (1 : Int32))] [(.int (1 : Int32))])) _
      refine XS.iconst X0.here hx rfl (hb hby d38_56) ?_
      show Steps p.tables e below (s₁.setTop (mkF m 57 #[.val (.int (1 : Int32))] [(.int (1 : Int32)), (.int (1 : Int32))])) _
      refine XS.ishl X0.here hx rfl (hb hby d38_57) rfl ?_
      exact k)
  obtain ⟨fs, hr, hrun, hended, hW, hsame⟩ := X0.leave (v := some (.int ((1 : Int32) <<< ((1 : Int32) &&& 31)))) (fun h => by rw [Bd.returns] at h; cases h)
  refine ⟨_, _, J1 _ ?_, hrun, hended, _, _, rfl, ?_, ⟨_, rfl⟩, hW, hsame.mono (by decide) (by decide)⟩
  · show Steps p.tables e below (s₁.setTop (mkF m 58 #[.val (.int (1 : Int32))] [(.int ((1 : Int32) <<< ((1 : Int32) &&& 31)))])) _
    exact retI X0 hx Bd.returns (hb hby d38_58) hr
  · show Q38 Z  h0 n0 _ s₁.heap _
    rw [e0]
    exact ⟨rfl, N0, rfl⟩
theorem d37_0 : decode jdk_52_method_2_code 0 = .ok (.iload_n 0, 1) := by decide +kernel
theorem d37_1 : decode jdk_52_method_2_code 1 = .ok (.invokestatic 11, 3) := by decide +kernel
theorem pd_10 : parseMethodDescriptor "(I)I" = some ⟨[.int], some .int⟩ := by decide +kernel
theorem d37_4 : decode jdk_52_method_2_code 4 = .ok (.newarray .byte, 2) := by decide +kernel
theorem d37_6 : decode jdk_52_method_2_code 6 = .ok (.areturn, 1) := by decide +kernel
theorem pn_37 : plainName "java/lang/StringUTF16" = true := by first | (simp [plainName, overriddenIn]; done) | decide +kernel
theorem ef_37_x (m : MethodId) (x0 : Int32) : entryFrame m #[(.int x0)] 1 = mkF m 0 #[.val (.int x0)] [] := by first | (simp [entryFrame, mkF, argsToLocals, Value.category]; done) | rfl
def Q37 (Z : State)  (h0 : Heap) (n0 : Nat) (v : Option Value) (h : Heap) (L : List Loc) : Prop := ∃ (ba : Addr) (bcl : Cell), v = some (.ref ba) ∧ Fr n0 L ∧ Keep h0 h [] ∧ (Arr Z h ba bcl .byte) ∧ (bcl.slots.size = 2) ∧ (n0 ≤ ba) ∧ (h0.size ≤ ba)
set_option maxRecDepth 65536 in
set_option maxHeartbeats 40000000 in
theorem rm37 (l : Launch) (Z : State) (a0 : Array Value) (hw : ∀ d ∈ tables_1, d.before a0 Z = true) (ws : List Jvm.Cond)  (h0 : Heap) (n0 : Nat) (Z0 : n0 ≤ h0.size) :
    MetFree l (⟨"java/lang/StringUTF16", "newBytesFor", "(I)[B"⟩ : MethodName) (head1 (Jvm.Cond.code (⟨"java/lang/StringUTF16", "newBytesFor", "(I)[B"⟩ : MethodName) jdk_52_method_2_code 1 (some (.array .byte)) :: ws) ({ frames := 1, cells := 1, slots := 2, locals := 12 } : Room)) (fun a U => a = #[(.int (1 : Int32))] ∧ Z.Warmed39 U.vm ∧ U.heap = h0) (fun _ _ _ _ _ => True) (fun _ U o U' => ∃ v L, o = .returned v ∧ Q37 Z  h0 n0 v U'.heap L ∧ FrameEnd U o U' L ({ frames := 1, cells := 1, slots := 2, locals := 12 } : Room).cells ({ frames := 1, cells := 1, slots := 2, locals := 12 } : Room).slots) := by
  refine MetFree.of_bodySF (plainFor_of_name pn_37) hisR ?_
  intro p e s m args below meth c s₁ Bd hml0 hP hK
  obtain ⟨rfl, hZ, hh⟩ := hP
  have hx := Bd.exec
  have hby := Bd.bytes
  have hml : c.maxLocals = 1 := hml0
  have hown : s.vm.findClass "java/lang/StringUTF16" = some m.cls := findClass_of_methodNamed Bd.named
  have hnm := (name_of_methodNamed Bd.named Bd.method).1
  have X0 : Stand p l e ({ frames := 1, cells := 1, slots := 2, locals := 12 } : Room) s m #[(.int (1 : Int32))] below meth c s₁ [] 0 0 := Stand.of_body Bd
  have e0 : s₁.heap = h0 := by rw [← hh, Bd.state]; rfl
  have N0 := Fr.nil n0
  have pre0 : ∀ t, Steps p.tables e below (s₁.setTop (mkF m 0 #[.val (.int (1 : Int32))] [])) t → Steps p.tables e below (s₁.setTop (entryFrame m #[(.int (1 : Int32))] 1)) t := fun t k => castTop (ef_37_x m (1 : Int32)) k
  have J1 : ∀ t, Steps p.tables e below (s₁.setTop (mkF m 1 #[.val (.int (1 : Int32))] [(.int (1 : Int32))])) t → Steps p.tables e below (s₁.setTop (entryFrame m #[(.int (1 : Int32))] 1)) t := fun t k => pre0 t (by
      show Steps p.tables e below (s₁.setTop (mkF m 0 #[.val (.int (1 : Int32))] [])) _
      refine XS.iloadN X0.here hx rfl (hb hby d37_0) rfl ?_
      exact k)
  obtain ⟨_, _, ⟨T2, L2, k2, n2⟩, -, X2, ⟨Lc2, hQ2, l2, y2, z2⟩, st2⟩ := Jvm.LawKit.callS X0 hx (y := (⟨"java/lang/StringUTF16", "newBytesLength", "(I)I"⟩ : MethodName)) hown (mvT hZ (hw _ (List.mem_of_getElem? (i := 221) rfl))) (mvT hZ (hw _ (List.mem_of_getElem? (i := 222) rfl))) (mvT hZ (hw _ (List.mem_of_getElem? (i := 135) rfl))) (mvT hZ (hw _ (List.mem_of_getElem? (i := 223) rfl))) (by decide) (backOf (W := 0) (rm38 l Z a0 hw []  h0 n0 Z0 ) hZ (hw _ (List.mem_of_getElem? (i := 223) rfl)) (hw _ (List.mem_of_getElem? (i := 135) rfl)) (by decide) (by decide)) (g := (mkF m 1 #[.val (.int (1 : Int32))] [(.int (1 : Int32))])) rfl (by rw [hml]; rfl) (argsL := [(.int (1 : Int32))]) (rest := []) (lenOf pd_10 rfl) rfl (by show 2 * 0 + _ ≤ _; exact Nat.le_of_eq rfl) (hb hby d37_1) (fun _ _ => ⟨rfl, e0, (by decide : 0 + 0 ≤ _), (by decide : 0 + 0 ≤ _)⟩)
  dsimp only [Pt.U, Pt.locs, Pt.cells, Pt.slots] at X2 l2 y2 z2 st2 hQ2
  subst y2 z2
  obtain ⟨rfl, Nq2, e2⟩ := hQ2
  have N3 : Fr n0 L2 := by rw [l2]; exact Fr.app N0 Nq2
  have J4 : ∀ t, Steps p.tables e below (T2.setTop (mkF m 4 #[.val (.int (1 : Int32))] [(.int ((1 : Int32) <<< ((1 : Int32) &&& 31)))])) t → Steps p.tables e below (s₁.setTop (entryFrame m #[(.int (1 : Int32))] 1)) t := fun t k => J1 t (st2 t k)
  have J5 : ∀ t, Steps p.tables e below (T2.setTop (mkF m 4 #[.val (.int (1 : Int32))] [(.int (2 : Int32))])) t → Steps p.tables e below (s₁.setTop (entryFrame m #[(.int (1 : Int32))] 1)) t := fun t k => J4 t (by rw [(by decide : ((1 : Int32) <<< ((1 : Int32) &&& 31)) = (2 : Int32))]; exact k)
  obtain ⟨T6, h6, k6, X6, e6, E6, A6, st6⟩ := newP X2 hx hZ (hw _ (List.mem_of_getElem? (i := 6) rfl)) e2 (g := (mkF m 4 #[.val (.int (1 : Int32))] [(.int (2 : Int32))])) rfl (hb hby d37_4) rfl (by decide) (cap := 2) (by decide) (by decide) (by decide) (by decide)
  obtain ⟨b6, g6⟩ : ∃ z, z = h0.size := ⟨_, rfl⟩
  rw [← g6] at A6 st6
  obtain ⟨cl6, hcl6⟩ : ∃ z, z = newA k6 .byte (2 : Int32) := ⟨_, rfl⟩
  have Aw6 : Arr Z h6 b6 cl6 .byte := by rw [hcl6]; exact A6
  have J7 : ∀ t, Steps p.tables e below (T6.setTop (mkF m 6 #[.val (.int (1 : Int32))] [(.ref b6)])) t → Steps p.tables e below (s₁.setTop (entryFrame m #[(.int (1 : Int32))] 1)) t := fun t k => J5 t (st6 t k)
  have ge8 : n0 ≤ b6 := Nat.le_trans Z0 (Nat.le_of_eq g6.symm)
  have sz9 : h0.size ≤ b6 := Nat.le_trans (Keep.refl h0 []).1 (Nat.le_of_eq g6.symm)
  have Z10 : n0 ≤ h6.size := Nat.le_trans Z0 E6.1
  have KK11 : Keep h0 h6 [] := (Keep.refl h0 []).ext E6
  obtain ⟨fs, hr, hrun, hended, hW, hsame⟩ := X6.leave (v := some (.ref b6)) (fun h => by rw [Bd.returns] at h; cases h)
  refine ⟨_, _, J7 _ ?_, hrun, hended, _, _, rfl, ?_, ⟨_, rfl⟩, hW, hsame.mono (by decide) (by decide)⟩
  · show Steps p.tables e below (T6.setTop (mkF m 6 #[.val (.int (1 : Int32))] [(.ref b6)])) _
    jvm_step X6.here [X6.here.top, hx, (hb hby d37_6), X6.method', Bd.returns, Value.isRef, FieldType.isReference]
    first | (intro acts; rw [hr _ acts rfl rfl rfl]) | rw [hr _ _ rfl rfl rfl]
    exact Steps.refl _
  · show Q37 Z  h0 n0 _ T6.heap _
    rw [e6]
    exact ⟨b6, cl6, rfl, N3, KK11, Aw6, (by rw [hcl6, sz_new]; decide), ge8, sz9⟩
theorem d39_0 : decode jdk_52_method_4_code 0 = .ok (.getstatic 44, 3) := by decide +kernel
theorem d39_3 : decode jdk_52_method_4_code 3 = .ok (.ifCond .ne 25, 3) := by decide +kernel
theorem d39_28 : decode jdk_52_method_4_code 28 = .ok (.iload_n 1, 1) := by decide +kernel
theorem d39_29 : decode jdk_52_method_4_code 29 = .ok (.iconst 1, 1) := by decide +kernel
theorem d39_30 : decode jdk_52_method_4_code 30 = .ok (.ishl, 1) := by decide +kernel
theorem d39_31 : decode jdk_52_method_4_code 31 = .ok (.istore_n 1, 1) := by decide +kernel
theorem d39_32 : decode jdk_52_method_4_code 32 = .ok (.aload_n 0, 1) := by decide +kernel
theorem d39_33 : decode jdk_52_method_4_code 33 = .ok (.iload_n 1, 1) := by decide +kernel
theorem d39_34 : decode jdk_52_method_4_code 34 = .ok (.iinc 1 1, 3) := by decide +kernel
theorem d39_37 : decode jdk_52_method_4_code 37 = .ok (.iload_n 2, 1) := by decide +kernel
theorem d39_38 : decode jdk_52_method_4_code 38 = .ok (.getstatic 59, 3) := by decide +kernel
theorem d39_41 : decode jdk_52_method_4_code 41 = .ok (.ishr, 1) := by decide +kernel
theorem d39_42 : decode jdk_52_method_4_code 42 = .ok (.i2b, 1) := by decide +kernel
theorem d39_43 : decode jdk_52_method_4_code 43 = .ok (.bastore, 1) := by decide +kernel
theorem d39_44 : decode jdk_52_method_4_code 44 = .ok (.aload_n 0, 1) := by decide +kernel
theorem d39_45 : decode jdk_52_method_4_code 45 = .ok (.iload_n 1, 1) := by decide +kernel
theorem d39_46 : decode jdk_52_method_4_code 46 = .ok (.iload_n 2, 1) := by decide +kernel
theorem d39_47 : decode jdk_52_method_4_code 47 = .ok (.getstatic 63, 3) := by decide +kernel
theorem d39_50 : decode jdk_52_method_4_code 50 = .ok (.ishr, 1) := by decide +kernel
theorem d39_51 : decode jdk_52_method_4_code 51 = .ok (.i2b, 1) := by decide +kernel
theorem d39_52 : decode jdk_52_method_4_code 52 = .ok (.bastore, 1) := by decide +kernel
theorem d39_53 : decode jdk_52_method_4_code 53 = .ok (.return_, 1) := by decide +kernel
theorem pn_39 : plainName "java/lang/StringUTF16" = true := by first | (simp [plainName, overriddenIn]; done) | decide +kernel
theorem ef_39_xxx (m : MethodId) (x0 : Addr) (x1 : Int32) (x2 : Int32) : entryFrame m #[(.ref x0), (.int x1), (.int x2)] 3 = mkF m 0 #[.val (.ref x0), .val (.int x1), .val (.int x2)] [] := by first | (simp [entryFrame, mkF, argsToLocals, Value.category]; done) | rfl
def Q39 (Z : State) (ba : Addr) (bcl : Cell) (ch : Int32) (h0 : Heap) (n0 : Nat) (v : Option Value) (h : Heap) (L : List Loc) : Prop := ∃ (bcl' : Cell), v = none ∧ Fr n0 L ∧ Keep h0 h [ba] ∧ (Arr Z h ba bcl' .byte) ∧ (bcl'.slots.size = 2) ∧ (bcl'.slots[0]? = some (.int (own_u0 ch))) ∧ (bcl'.slots[1]? = some (.int (own_u1 ch)))
set_option maxRecDepth 65536 in
set_option maxHeartbeats 40000000 in
theorem rm39 (l : Launch) (Z : State) (a0 : Array Value) (hw : ∀ d ∈ tables_1, d.before a0 Z = true) (ws : List Jvm.Cond) (ba : Addr) (bcl : Cell) (ch : Int32) (h0 : Heap) (n0 : Nat) (Z0 : n0 ≤ h0.size) (Ar_ba : Arr Z h0 ba bcl .byte) (hbz : bcl.slots.size = 2) (g_ba : n0 ≤ ba) (O : Old Z n0 h0) (Zs__assertionsDisabled : Sta Z Z.heap "java/lang/StringUTF16" "$assertionsDisabled" "Z" (.int (1 : Int32))) (Zs_HI_BYTE_SHIFT : Sta Z Z.heap "java/lang/StringUTF16" "HI_BYTE_SHIFT" "I" (.int (0 : Int32))) (Zs_LO_BYTE_SHIFT : Sta Z Z.heap "java/lang/StringUTF16" "LO_BYTE_SHIFT" "I" (.int (8 : Int32))) :
    MetFree l (⟨"java/lang/StringUTF16", "putChar", "([BII)V"⟩ : MethodName) (head1 (Jvm.Cond.code (⟨"java/lang/StringUTF16", "putChar", "([BII)V"⟩ : MethodName) jdk_52_method_4_code 3 none :: ws) ({ frames := 0, cells := 0, slots := 0, locals := 0 } : Room)) (fun a U => a = #[(.ref ba), (.int (0 : Int32)), (.int ch)] ∧ Z.Warmed39 U.vm ∧ U.heap = h0) (fun _ _ _ _ _ => True) (fun _ U o U' => ∃ v L, o = .returned v ∧ Q39 Z ba bcl ch h0 n0 v U'.heap L ∧ FrameEnd U o U' L ({ frames := 0, cells := 0, slots := 0, locals := 0 } : Room).cells ({ frames := 0, cells := 0, slots := 0, locals := 0 } : Room).slots) := by
  refine MetFree.of_bodySF (plainFor_of_name pn_39) hisR ?_
  intro p e s m args below meth c s₁ Bd hml0 hP hK
  obtain ⟨rfl, hZ, hh⟩ := hP
  have hx := Bd.exec
  have hby := Bd.bytes
  have hml : c.maxLocals = 3 := hml0
  have hown : s.vm.findClass "java/lang/StringUTF16" = some m.cls := findClass_of_methodNamed Bd.named
  have hnm := (name_of_methodNamed Bd.named Bd.method).1
  have X0 : Stand p l e ({ frames := 0, cells := 0, slots := 0, locals := 0 } : Room) s m #[(.ref ba), (.int (0 : Int32)), (.int ch)] below meth c s₁ [] 0 0 := Stand.of_body Bd
  have e0 : s₁.heap = h0 := by rw [← hh, Bd.state]; rfl
  have N0 := Fr.nil n0
  have pre0 : ∀ t, Steps p.tables e below (s₁.setTop (mkF m 0 #[.val (.ref ba), .val (.int (0 : Int32)), .val (.int ch)] [])) t → Steps p.tables e below (s₁.setTop (entryFrame m #[(.ref ba), (.int (0 : Int32)), (.int ch)] 3)) t := fun t k => castTop (ef_39_xxx m ba (0 : Int32) ch) k
  obtain ⟨T1, X1, e1, st1⟩ := getS2 X0 hx hZ hown (host := "") (Or.inl (hw _ (List.mem_of_getElem? (i := 228) rfl))) Via.refl e0 (Zs__assertionsDisabled.ext O.2) (g := (mkF m 0 #[.val (.ref ba), .val (.int (0 : Int32)), .val (.int ch)] [])) rfl (hb hby d39_0)
  have J2 : ∀ t, Steps p.tables e below (T1.setTop (mkF m 3 #[.val (.ref ba), .val (.int (0 : Int32)), .val (.int ch)] [(.int (1 : Int32))])) t → Steps p.tables e below (s₁.setTop (entryFrame m #[(.ref ba), (.int (0 : Int32)), (.int ch)] 3)) t := fun t k => pre0 t (st1 t k)
  have J3 : ∀ t, Steps p.tables e below (T1.setTop (mkF m 32 #[.val (.ref ba), .val (.int ((0 : Int32) <<< ((1 : Int32) &&& 31))), .val (.int ch)] [])) t → Steps p.tables e below (s₁.setTop (entryFrame m #[(.ref ba), (.int (0 : Int32)), (.int ch)] 3)) t := fun t k => J2 t (by
      show Steps p.tables e below (T1.setTop (mkF m 3 #[.val (.ref ba), .val (.int (0 : Int32)), .val (.int ch)] [(.int (1 : Int32))])) _
      refine XS.ifYes X1.here hx rfl (pc0 := 3) (pc' := 28) rfl (hb hby d39_3) rfl ((if0 _ _).trans (feq (by decide)).2) (by decide) (by decide) ?_
      show Steps p.tables e below (T1.setTop (mkF m 28 #[.val (.ref ba), .val (.int (0 : Int32)), .val (.int ch)] [])) _
      refine XS.iloadN X1.here hx rfl (hb hby d39_28) rfl ?_
      show Steps p.tables e below (T1.setTop (mkF m 29 #[.val (.ref ba), .val (.int (0 : Int32)), .val (.int ch)] [(.int (0 : Int32))])) _
      refine XS.iconst X1.here hx rfl (hb hby d39_29) ?_
      show Steps p.tables e below (T1.setTop (mkF m 30 #[.val (.ref ba), .val (.int (0 : Int32)), .val (.int ch)] [(.int (1 : Int32)), (.int (0 : Int32))])) _
      refine XS.ishl X1.here hx rfl (hb hby d39_30) rfl ?_
      show Steps p.tables e below (T1.setTop (mkF m 31 #[.val (.ref ba), .val (.int (0 : Int32)), .val (.int ch)] [(.int ((0 : Int32) <<< ((1 : Int32) &&& 31)))])) _
      refine XS.istoreN X1.here hx rfl (hb hby d39_31) rfl (l' := #[.val (.ref ba), .val (.int ((0 : Int32) <<< ((1 : Int32) &&& 31))), .val (.int ch)]) rfl ?_
      exact k)
  have J4 : ∀ t, Steps p.tables e below (T1.setTop (mkF m 32 #[.val (.ref ba), .val (.int (0 : Int32)), .val (.int ch)] [])) t → Steps p.tables e below (s₁.setTop (entryFrame m #[(.ref ba), (.int (0 : Int32)), (.int ch)] 3)) t := fun t k => J3 t (by rw [(by decide : ((0 : Int32) <<< ((1 : Int32) &&& 31)) = (0 : Int32))]; exact k)
  have J5 : ∀ t, Steps p.tables e below (T1.setTop (mkF m 37 #[.val (.ref ba), .val (.int ((0 : Int32) + (1 : Int32))), .val (.int ch)] [(.int (0 : Int32)), (.ref ba)])) t → Steps p.tables e below (s₁.setTop (entryFrame m #[(.ref ba), (.int (0 : Int32)), (.int ch)] 3)) t := fun t k => J4 t (by
      show Steps p.tables e below (T1.setTop (mkF m 32 #[.val (.ref ba), .val (.int (0 : Int32)), .val (.int ch)] [])) _
      refine XS.aloadN X1.here hx rfl (hb hby d39_32) rfl rfl ?_
      show Steps p.tables e below (T1.setTop (mkF m 33 #[.val (.ref ba), .val (.int (0 : Int32)), .val (.int ch)] [(.ref ba)])) _
      refine XS.iloadN X1.here hx rfl (hb hby d39_33) rfl ?_
      show Steps p.tables e below (T1.setTop (mkF m 34 #[.val (.ref ba), .val (.int (0 : Int32)), .val (.int ch)] [(.int (0 : Int32)), (.ref ba)])) _
      refine XS.iinc X1.here hx rfl (hb hby d39_34) rfl (l' := #[.val (.ref ba), .val (.int ((0 : Int32) + (1 : Int32))), .val (.int ch)]) rfl ?_
      exact k)
  have J6 : ∀ t, Steps p.tables e below (T1.setTop (mkF m 37 #[.val (.ref ba), .val (.int (1 : Int32)), .val (.int ch)] [(.int (0 : Int32)), (.ref ba)])) t → Steps p.tables e below (s₁.setTop (entryFrame m #[(.ref ba), (.int (0 : Int32)), (.int ch)] 3)) t := fun t k => J5 t (by rw [(by decide : ((0 : Int32) + (1 : Int32)) = (1 : Int32))]; exact k)
  have J7 : ∀ t, Steps p.tables e below (T1.setTop (mkF m 38 #[.val (.ref ba), .val (.int (1 : Int32)), .val (.int ch)] [(.int ch), (.int (0 : Int32)), (.ref ba)])) t → Steps p.tables e below (s₁.setTop (entryFrame m #[(.ref ba), (.int (0 : Int32)), (.int ch)] 3)) t := fun t k => J6 t (by
      show Steps p.tables e below (T1.setTop (mkF m 37 #[.val (.ref ba), .val (.int (1 : Int32)), .val (.int ch)] [(.int (0 : Int32)), (.ref ba)])) _
      refine XS.iloadN X1.here hx rfl (hb hby d39_37) rfl ?_
      exact k)
  obtain ⟨T8, X8, e8, st8⟩ := getS2 X1 hx hZ hown (host := "") (Or.inl (hw _ (List.mem_of_getElem? (i := 229) rfl))) Via.refl e1 (Zs_HI_BYTE_SHIFT.ext O.2) (g := (mkF m 38 #[.val (.ref ba), .val (.int (1 : Int32)), .val (.int ch)] [(.int ch), (.int (0 : Int32)), (.ref ba)])) rfl (hb hby d39_38)
  have J9 : ∀ t, Steps p.tables e below (T8.setTop (mkF m 41 #[.val (.ref ba), .val (.int (1 : Int32)), .val (.int ch)] [(.int (0 : Int32)), (.int ch), (.int (0 : Int32)), (.ref ba)])) t → Steps p.tables e below (s₁.setTop (entryFrame m #[(.ref ba), (.int (0 : Int32)), (.int ch)] 3)) t := fun t k => J7 t (st8 t k)
  have J10 : ∀ t, Steps p.tables e below (T8.setTop (mkF m 43 #[.val (.ref ba), .val (.int (1 : Int32)), .val (.int ch)] [(.int ((ch >>> ((0 : Int32) &&& 31)).toInt8.toInt32)), (.int (0 : Int32)), (.ref ba)])) t → Steps p.tables e below (s₁.setTop (entryFrame m #[(.ref ba), (.int (0 : Int32)), (.int ch)] 3)) t := fun t k => J9 t (by
      show Steps p.tables e below (T8.setTop (mkF m 41 #[.val (.ref ba), .val (.int (1 : Int32)), .val (.int ch)] [(.int (0 : Int32)), (.int ch), (.int (0 : Int32)), (.ref ba)])) _
      refine XS.ishr X8.here hx rfl (hb hby d39_41) rfl ?_
      show Steps p.tables e below (T8.setTop (mkF m 42 #[.val (.ref ba), .val (.int (1 : Int32)), .val (.int ch)] [(.int (ch >>> ((0 : Int32) &&& 31))), (.int (0 : Int32)), (.ref ba)])) _
      refine XS.i2b X8.here hx rfl (hb hby d39_42) rfl ?_
      exact k)
  obtain ⟨T11, h11, X11, e11, W11, st11⟩ := stB X8 hx hZ e8 Ar_ba (j := (0 : Int32)) (own_in hbz (by decide) (by decide)) (g := (mkF m 43 #[.val (.ref ba), .val (.int (1 : Int32)), .val (.int ch)] [(.int ((ch >>> ((0 : Int32) &&& 31)).toInt8.toInt32)), (.int (0 : Int32)), (.ref ba)])) rfl rfl (hb hby d39_43)
  have J12 : ∀ t, Steps p.tables e below (T11.setTop (mkF m 44 #[.val (.ref ba), .val (.int (1 : Int32)), .val (.int ch)] [])) t → Steps p.tables e below (s₁.setTop (entryFrame m #[(.ref ba), (.int (0 : Int32)), (.int ch)] 3)) t := fun t k => J10 t (st11 t k)
  have Z13 : n0 ≤ h11.size := Nat.le_trans Z0 (Keep.of_wr W11).1
  have KK14 : Keep h0 h11 [ba] := (Keep.refl h0 [ba]).wr W11 (Or.inl (List.mem_of_getElem? (i := 0) rfl))
  have N15 := Fr.snoc X11 N0 g_ba
  obtain ⟨cl11, hcl11⟩ : ∃ z, z = bcl.setSlot ((0 : Int32)).toNatClampNeg (.int (nar .byte ((ch >>> ((0 : Int32) &&& 31)).toInt8.toInt32))) := ⟨_, rfl⟩
  have Aw11 : Arr Z h11 ba cl11 .byte := by rw [hcl11]; exact Ar_ba.same W11
  have hz1 := own_ssz hcl11 hbz
  have J16 : ∀ t, Steps p.tables e below (T11.setTop (mkF m 47 #[.val (.ref ba), .val (.int (1 : Int32)), .val (.int ch)] [(.int ch), (.int (1 : Int32)), (.ref ba)])) t → Steps p.tables e below (s₁.setTop (entryFrame m #[(.ref ba), (.int (0 : Int32)), (.int ch)] 3)) t := fun t k => J12 t (by
      show Steps p.tables e below (T11.setTop (mkF m 44 #[.val (.ref ba), .val (.int (1 : Int32)), .val (.int ch)] [])) _
      refine XS.aloadN X11.here hx rfl (hb hby d39_44) rfl rfl ?_
      show Steps p.tables e below (T11.setTop (mkF m 45 #[.val (.ref ba), .val (.int (1 : Int32)), .val (.int ch)] [(.ref ba)])) _
      refine XS.iloadN X11.here hx rfl (hb hby d39_45) rfl ?_
      show Steps p.tables e below (T11.setTop (mkF m 46 #[.val (.ref ba), .val (.int (1 : Int32)), .val (.int ch)] [(.int (1 : Int32)), (.ref ba)])) _
      refine XS.iloadN X11.here hx rfl (hb hby d39_46) rfl ?_
      exact k)
  have f17 := O.wr W11 g_ba
  obtain ⟨T18, X18, e18, st18⟩ := getS2 X11 hx hZ hown (host := "") (Or.inl (hw _ (List.mem_of_getElem? (i := 230) rfl))) Via.refl e11 (Zs_LO_BYTE_SHIFT.ext f17.2) (g := (mkF m 47 #[.val (.ref ba), .val (.int (1 : Int32)), .val (.int ch)] [(.int ch), (.int (1 : Int32)), (.ref ba)])) rfl (hb hby d39_47)
  have J19 : ∀ t, Steps p.tables e below (T18.setTop (mkF m 50 #[.val (.ref ba), .val (.int (1 : Int32)), .val (.int ch)] [(.int (8 : Int32)), (.int ch), (.int (1 : Int32)), (.ref ba)])) t → Steps p.tables e below (s₁.setTop (entryFrame m #[(.ref ba), (.int (0 : Int32)), (.int ch)] 3)) t := fun t k => J16 t (st18 t k)
  have J20 : ∀ t, Steps p.tables e below (T18.setTop (mkF m 52 #[.val (.ref ba), .val (.int (1 : Int32)), .val (.int ch)] [(.int ((ch >>> ((8 : Int32) &&& 31)).toInt8.toInt32)), (.int (1 : Int32)), (.ref ba)])) t → Steps p.tables e below (s₁.setTop (entryFrame m #[(.ref ba), (.int (0 : Int32)), (.int ch)] 3)) t := fun t k => J19 t (by
      show Steps p.tables e below (T18.setTop (mkF m 50 #[.val (.ref ba), .val (.int (1 : Int32)), .val (.int ch)] [(.int (8 : Int32)), (.int ch), (.int (1 : Int32)), (.ref ba)])) _
      refine XS.ishr X18.here hx rfl (hb hby d39_50) rfl ?_
      show Steps p.tables e below (T18.setTop (mkF m 51 #[.val (.ref ba), .val (.int (1 : Int32)), .val (.int ch)] [(.int (ch >>> ((8 : Int32) &&& 31))), (.int (1 : Int32)), (.ref ba)])) _
      refine XS.i2b X18.here hx rfl (hb hby d39_51) rfl ?_
      exact k)
  obtain ⟨T21, h21, X21, e21, W21, st21⟩ := stB X18 hx hZ e18 Aw11 (j := (1 : Int32)) (own_in hz1 (by decide) (by decide)) (g := (mkF m 52 #[.val (.ref ba), .val (.int (1 : Int32)), .val (.int ch)] [(.int ((ch >>> ((8 : Int32) &&& 31)).toInt8.toInt32)), (.int (1 : Int32)), (.ref ba)])) rfl rfl (hb hby d39_52)
  have J22 : ∀ t, Steps p.tables e below (T21.setTop (mkF m 53 #[.val (.ref ba), .val (.int (1 : Int32)), .val (.int ch)] [])) t → Steps p.tables e below (s₁.setTop (entryFrame m #[(.ref ba), (.int (0 : Int32)), (.int ch)] 3)) t := fun t k => J20 t (st21 t k)
  have Z23 : n0 ≤ h21.size := Nat.le_trans Z13 (Keep.of_wr W21).1
  have KK24 : Keep h0 h21 [ba] := KK14.wr W21 (Or.inl (List.mem_of_getElem? (i := 0) rfl))
  have N25 := Fr.snoc X21 N15 g_ba
  obtain ⟨cl21, hcl21⟩ : ∃ z, z = cl11.setSlot ((1 : Int32)).toNatClampNeg (.int (nar .byte ((ch >>> ((8 : Int32) &&& 31)).toInt8.toInt32))) := ⟨_, rfl⟩
  have Aw21 : Arr Z h21 ba cl21 .byte := by rw [hcl21]; exact Aw11.same W21
  obtain ⟨fs, hr, hrun, hended, hW, hsame⟩ := X21.leave (v := none) (fun _ => rfl)
  refine ⟨_, _, J22 _ ?_, hrun, hended, _, _, rfl, ?_, ⟨_, rfl⟩, hW, hsame.mono (by decide) (by decide)⟩
  · show Steps p.tables e below (T21.setTop (mkF m 53 #[.val (.ref ba), .val (.int (1 : Int32)), .val (.int ch)] [])) _
    exact X21.returnOut hx Bd.returns (hb hby d39_53) hr
  · show Q39 Z ba bcl ch h0 n0 _ T21.heap _
    rw [e21]
    exact ⟨cl21, rfl, N25, KK24, Aw21, (own_ssz hcl21 hz1), (own_other hcl21 (by decide) (own_same hcl11 (by decide) (by rw [hbz]; decide))), (own_same hcl21 (by decide) (by rw [hz1]; decide))⟩
theorem d40_0 : decode jdk_52_method_5_code 0 = .ok (.getstatic 44, 3) := by decide +kernel
theorem d40_3 : decode jdk_52_method_5_code 3 = .ok (.ifCond .ne 25, 3) := by decide +kernel
theorem d40_28 : decode jdk_52_method_5_code 28 = .ok (.iload_n 1, 1) := by decide +kernel
theorem d40_29 : decode jdk_52_method_5_code 29 = .ok (.iconst 1, 1) := by decide +kernel
theorem d40_30 : decode jdk_52_method_5_code 30 = .ok (.ishl, 1) := by decide +kernel
theorem d40_31 : decode jdk_52_method_5_code 31 = .ok (.istore_n 1, 1) := by decide +kernel
theorem d40_32 : decode jdk_52_method_5_code 32 = .ok (.aload_n 0, 1) := by decide +kernel
theorem d40_33 : decode jdk_52_method_5_code 33 = .ok (.iload_n 1, 1) := by decide +kernel
theorem d40_34 : decode jdk_52_method_5_code 34 = .ok (.iinc 1 1, 3) := by decide +kernel
theorem d40_37 : decode jdk_52_method_5_code 37 = .ok (.baload, 1) := by decide +kernel
theorem d40_38 : decode jdk_52_method_5_code 38 = .ok (.sipush 255, 3) := by decide +kernel
theorem d40_41 : decode jdk_52_method_5_code 41 = .ok (.iand, 1) := by decide +kernel
theorem d40_42 : decode jdk_52_method_5_code 42 = .ok (.getstatic 59, 3) := by decide +kernel
theorem d40_45 : decode jdk_52_method_5_code 45 = .ok (.ishl, 1) := by decide +kernel
theorem d40_46 : decode jdk_52_method_5_code 46 = .ok (.aload_n 0, 1) := by decide +kernel
theorem d40_47 : decode jdk_52_method_5_code 47 = .ok (.iload_n 1, 1) := by decide +kernel
theorem d40_48 : decode jdk_52_method_5_code 48 = .ok (.baload, 1) := by decide +kernel
theorem d40_49 : decode jdk_52_method_5_code 49 = .ok (.sipush 255, 3) := by decide +kernel
theorem d40_52 : decode jdk_52_method_5_code 52 = .ok (.iand, 1) := by decide +kernel
theorem d40_53 : decode jdk_52_method_5_code 53 = .ok (.getstatic 63, 3) := by decide +kernel
theorem d40_56 : decode jdk_52_method_5_code 56 = .ok (.ishl, 1) := by decide +kernel
theorem d40_57 : decode jdk_52_method_5_code 57 = .ok (.ior, 1) := by decide +kernel
theorem d40_58 : decode jdk_52_method_5_code 58 = .ok (.i2c, 1) := by decide +kernel
theorem d40_59 : decode jdk_52_method_5_code 59 = .ok (.ireturn, 1) := by decide +kernel
theorem pn_40 : plainName "java/lang/StringUTF16" = true := by first | (simp [plainName, overriddenIn]; done) | decide +kernel
theorem ef_40_xx (m : MethodId) (x0 : Addr) (x1 : Int32) : entryFrame m #[(.ref x0), (.int x1)] 2 = mkF m 0 #[.val (.ref x0), .val (.int x1)] [] := by first | (simp [entryFrame, mkF, argsToLocals, Value.category]; done) | rfl
def Q40 (Z : State) (ba : Addr) (bcl : Cell) (ch : Int32) (h0 : Heap) (n0 : Nat) (v : Option Value) (h : Heap) (L : List Loc) : Prop := v = some (.int (own_gc ch)) ∧ Fr n0 L ∧ h = h0
set_option maxRecDepth 65536 in
set_option maxHeartbeats 40000000 in
theorem rm40 (l : Launch) (Z : State) (a0 : Array Value) (hw : ∀ d ∈ tables_1, d.before a0 Z = true) (ws : List Jvm.Cond) (ba : Addr) (bcl : Cell) (ch : Int32) (h0 : Heap) (n0 : Nat) (Z0 : n0 ≤ h0.size) (Ar_ba : Arr Z h0 ba bcl .byte) (hbz : bcl.slots.size = 2) (hb0 : bcl.slots[0]? = some (.int (own_u0 ch))) (hb1 : bcl.slots[1]? = some (.int (own_u1 ch))) (O : Old Z n0 h0) (Zs__assertionsDisabled : Sta Z Z.heap "java/lang/StringUTF16" "$assertionsDisabled" "Z" (.int (1 : Int32))) (Zs_HI_BYTE_SHIFT : Sta Z Z.heap "java/lang/StringUTF16" "HI_BYTE_SHIFT" "I" (.int (0 : Int32))) (Zs_LO_BYTE_SHIFT : Sta Z Z.heap "java/lang/StringUTF16" "LO_BYTE_SHIFT" "I" (.int (8 : Int32))) :
    MetFree l (⟨"java/lang/StringUTF16", "getChar", "([BI)C"⟩ : MethodName) (head1 (Jvm.Cond.code (⟨"java/lang/StringUTF16", "getChar", "([BI)C"⟩ : MethodName) jdk_52_method_5_code 2 (some .char) :: ws) ({ frames := 0, cells := 0, slots := 0, locals := 0 } : Room)) (fun a U => a = #[(.ref ba), (.int (0 : Int32))] ∧ Z.Warmed39 U.vm ∧ U.heap = h0) (fun _ _ _ _ _ => True) (fun _ U o U' => ∃ v L, o = .returned v ∧ Q40 Z ba bcl ch h0 n0 v U'.heap L ∧ FrameEnd U o U' L ({ frames := 0, cells := 0, slots := 0, locals := 0 } : Room).cells ({ frames := 0, cells := 0, slots := 0, locals := 0 } : Room).slots) := by
  refine MetFree.of_bodySF (plainFor_of_name pn_40) hisR ?_
  intro p e s m args below meth c s₁ Bd hml0 hP hK
  obtain ⟨rfl, hZ, hh⟩ := hP
  have hx := Bd.exec
  have hby := Bd.bytes
  have hml : c.maxLocals = 2 := hml0
  have hown : s.vm.findClass "java/lang/StringUTF16" = some m.cls := findClass_of_methodNamed Bd.named
  have hnm := (name_of_methodNamed Bd.named Bd.method).1
  have X0 : Stand p l e ({ frames := 0, cells := 0, slots := 0, locals := 0 } : Room) s m #[(.ref ba), (.int (0 : Int32))] below meth c s₁ [] 0 0 := Stand.of_body Bd
  have e0 : s₁.heap = h0 := by rw [← hh, Bd.state]; rfl
  have N0 := Fr.nil n0
  have pre0 : ∀ t, Steps p.tables e below (s₁.setTop (mkF m 0 #[.val (.ref ba), .val (.int (0 : Int32))] [])) t → Steps p.tables e below (s₁.setTop (entryFrame m #[(.ref ba), (.int (0 : Int32))] 2)) t := fun t k => castTop (ef_40_xx m ba (0 : Int32)) k
  obtain ⟨T1, X1, e1, st1⟩ := getS2 X0 hx hZ hown (host := "") (Or.inl (hw _ (List.mem_of_getElem? (i := 228) rfl))) Via.refl e0 (Zs__assertionsDisabled.ext O.2) (g := (mkF m 0 #[.val (.ref ba), .val (.int (0 : Int32))] [])) rfl (hb hby d40_0)
  have J2 : ∀ t, Steps p.tables e below (T1.setTop (mkF m 3 #[.val (.ref ba), .val (.int (0 : Int32))] [(.int (1 : Int32))])) t → Steps p.tables e below (s₁.setTop (entryFrame m #[(.ref ba), (.int (0 : Int32))] 2)) t := fun t k => pre0 t (st1 t k)
  have J3 : ∀ t, Steps p.tables e below (T1.setTop (mkF m 32 #[.val (.ref ba), .val (.int ((0 : Int32) <<< ((1 : Int32) &&& 31)))] [])) t → Steps p.tables e below (s₁.setTop (entryFrame m #[(.ref ba), (.int (0 : Int32))] 2)) t := fun t k => J2 t (by
      show Steps p.tables e below (T1.setTop (mkF m 3 #[.val (.ref ba), .val (.int (0 : Int32))] [(.int (1 : Int32))])) _
      refine XS.ifYes X1.here hx rfl (pc0 := 3) (pc' := 28) rfl (hb hby d40_3) rfl ((if0 _ _).trans (feq (by decide)).2) (by decide) (by decide) ?_
      show Steps p.tables e below (T1.setTop (mkF m 28 #[.val (.ref ba), .val (.int (0 : Int32))] [])) _
      refine XS.iloadN X1.here hx rfl (hb hby d40_28) rfl ?_
      show Steps p.tables e below (T1.setTop (mkF m 29 #[.val (.ref ba), .val (.int (0 : Int32))] [(.int (0 : Int32))])) _
      refine XS.iconst X1.here hx rfl (hb hby d40_29) ?_
      show Steps p.tables e below (T1.setTop (mkF m 30 #[.val (.ref ba), .val (.int (0 : Int32))] [(.int (1 : Int32)), (.int (0 : Int32))])) _
      refine XS.ishl X1.here hx rfl (hb hby d40_30) rfl ?_
      show Steps p.tables e below (T1.setTop (mkF m 31 #[.val (.ref ba), .val (.int (0 : Int32))] [(.int ((0 : Int32) <<< ((1 : Int32) &&& 31)))])) _
      refine XS.istoreN X1.here hx rfl (hb hby d40_31) rfl (l' := #[.val (.ref ba), .val (.int ((0 : Int32) <<< ((1 : Int32) &&& 31)))]) rfl ?_
      exact k)
  have J4 : ∀ t, Steps p.tables e below (T1.setTop (mkF m 32 #[.val (.ref ba), .val (.int (0 : Int32))] [])) t → Steps p.tables e below (s₁.setTop (entryFrame m #[(.ref ba), (.int (0 : Int32))] 2)) t := fun t k => J3 t (by rw [(by decide : ((0 : Int32) <<< ((1 : Int32) &&& 31)) = (0 : Int32))]; exact k)
  have J5 : ∀ t, Steps p.tables e below (T1.setTop (mkF m 37 #[.val (.ref ba), .val (.int ((0 : Int32) + (1 : Int32)))] [(.int (0 : Int32)), (.ref ba)])) t → Steps p.tables e below (s₁.setTop (entryFrame m #[(.ref ba), (.int (0 : Int32))] 2)) t := fun t k => J4 t (by
      show Steps p.tables e below (T1.setTop (mkF m 32 #[.val (.ref ba), .val (.int (0 : Int32))] [])) _
      refine XS.aloadN X1.here hx rfl (hb hby d40_32) rfl rfl ?_
      show Steps p.tables e below (T1.setTop (mkF m 33 #[.val (.ref ba), .val (.int (0 : Int32))] [(.ref ba)])) _
      refine XS.iloadN X1.here hx rfl (hb hby d40_33) rfl ?_
      show Steps p.tables e below (T1.setTop (mkF m 34 #[.val (.ref ba), .val (.int (0 : Int32))] [(.int (0 : Int32)), (.ref ba)])) _
      refine XS.iinc X1.here hx rfl (hb hby d40_34) rfl (l' := #[.val (.ref ba), .val (.int ((0 : Int32) + (1 : Int32)))]) rfl ?_
      exact k)
  have J6 : ∀ t, Steps p.tables e below (T1.setTop (mkF m 37 #[.val (.ref ba), .val (.int (1 : Int32))] [(.int (0 : Int32)), (.ref ba)])) t → Steps p.tables e below (s₁.setTop (entryFrame m #[(.ref ba), (.int (0 : Int32))] 2)) t := fun t k => J5 t (by rw [(by decide : ((0 : Int32) + (1 : Int32)) = (1 : Int32))]; exact k)
  have J7 : ∀ t, Steps p.tables e below (T1.setTop (mkF m 42 #[.val (.ref ba), .val (.int (1 : Int32))] [(.int ((own_u0 ch) &&& (255 : Int32)))])) t → Steps p.tables e below (s₁.setTop (entryFrame m #[(.ref ba), (.int (0 : Int32))] 2)) t := fun t k => J6 t (by
      show Steps p.tables e below (T1.setTop (mkF m 37 #[.val (.ref ba), .val (.int (1 : Int32))] [(.int (0 : Int32)), (.ref ba)])) _
      refine X1.baloadBytes hx (j := (0 : Int32)) (v := (.int (own_u0 ch))) (by rw [e1]; exact Ar_ba.1) (State.isArrayOf_alike hZ.alike Ar_ba.2.1) Ar_ba.2.2 (own_in hbz (by decide) (by decide)) (own_at (by decide) hb0) (g := (mkF m 37 #[.val (.ref ba), .val (.int (1 : Int32))] [(.int (0 : Int32)), (.ref ba)])) rfl rfl (hb hby d40_37) _ ?_
      show Steps p.tables e below (T1.setTop (mkF m 38 #[.val (.ref ba), .val (.int (1 : Int32))] [(.int (own_u0 ch))])) _
      refine XS.sipush X1.here hx rfl (hb hby d40_38) ?_
      show Steps p.tables e below (T1.setTop (mkF m 41 #[.val (.ref ba), .val (.int (1 : Int32))] [(.int (255 : Int32)), (.int (own_u0 ch))])) _
      refine XS.iand X1.here hx rfl (hb hby d40_41) rfl ?_
      exact k)
  obtain ⟨T8, X8, e8, st8⟩ := getS2 X1 hx hZ hown (host := "") (Or.inl (hw _ (List.mem_of_getElem? (i := 229) rfl))) Via.refl e1 (Zs_HI_BYTE_SHIFT.ext O.2) (g := (mkF m 42 #[.val (.ref ba), .val (.int (1 : Int32))] [(.int ((own_u0 ch) &&& (255 : Int32)))])) rfl (hb hby d40_42)
  have J9 : ∀ t, Steps p.tables e below (T8.setTop (mkF m 45 #[.val (.ref ba), .val (.int (1 : Int32))] [(.int (0 : Int32)), (.int ((own_u0 ch) &&& (255 : Int32)))])) t → Steps p.tables e below (s₁.setTop (entryFrame m #[(.ref ba), (.int (0 : Int32))] 2)) t := fun t k => J7 t (st8 t k)
  have J10 : ∀ t, Steps p.tables e below (T8.setTop (mkF m 53 #[.val (.ref ba), .val (.int (1 : Int32))] [(.int ((own_u1 ch) &&& (255 : Int32))), (.int (((own_u0 ch) &&& (255 : Int32)) <<< ((0 : Int32) &&& 31)))])) t → Steps p.tables e below (s₁.setTop (entryFrame m #[(.ref ba), (.int (0 : Int32))] 2)) t := fun t k => J9 t (by
      show Steps p.tables e below (T8.setTop (mkF m 45 #[.val (.ref ba), .val (.int (1 : Int32))] [(.int (0 : Int32)), (.int ((own_u0 ch) &&& (255 : Int32)))])) _
      refine XS.ishl X8.here hx rfl (hb hby d40_45) rfl ?_
      show Steps p.tables e below (T8.setTop (mkF m 46 #[.val (.ref ba), .val (.int (1 : Int32))] [(.int (((own_u0 ch) &&& (255 : Int32)) <<< ((0 : Int32) &&& 31)))])) _
      refine XS.aloadN X8.here hx rfl (hb hby d40_46) rfl rfl ?_
      show Steps p.tables e below (T8.setTop (mkF m 47 #[.val (.ref ba), .val (.int (1 : Int32))] [(.ref ba), (.int (((own_u0 ch) &&& (255 : Int32)) <<< ((0 : Int32) &&& 31)))])) _
      refine XS.iloadN X8.here hx rfl (hb hby d40_47) rfl ?_
      show Steps p.tables e below (T8.setTop (mkF m 48 #[.val (.ref ba), .val (.int (1 : Int32))] [(.int (1 : Int32)), (.ref ba), (.int (((own_u0 ch) &&& (255 : Int32)) <<< ((0 : Int32) &&& 31)))])) _
      refine X8.baloadBytes hx (j := (1 : Int32)) (v := (.int (own_u1 ch))) (by rw [e8]; exact Ar_ba.1) (State.isArrayOf_alike hZ.alike Ar_ba.2.1) Ar_ba.2.2 (own_in hbz (by decide) (by decide)) (own_at (by decide) hb1) (g := (mkF m 48 #[.val (.ref ba), .val (.int (1 : Int32))] [(.int (1 : Int32)), (.ref ba), (.int (((own_u0 ch) &&& (255 : Int32)) <<< ((0 : Int32) &&& 31)))])) rfl rfl (hb hby d40_48) _ ?_
      show Steps p.tables e below (T8.setTop (mkF m 49 #[.val (.ref ba), .val (.int (1 : Int32))] [(.int (own_u1 ch)), (.int (((own_u0 ch) &&& (255 : Int32)) <<< ((0 : Int32) &&& 31)))])) _
      refine XS.sipush X8.here hx rfl (hb hby d40_49) ?_
      show Steps p.tables e below (T8.setTop (mkF m 52 #[.val (.ref ba), .val (.int (1 : Int32))] [(.int (255 : Int32)), (.int (own_u1 ch)), (.int (((own_u0 ch) &&& (255 : Int32)) <<< ((0 : Int32) &&& 31)))])) _
      refine XS.iand X8.here hx rfl (hb hby d40_52) rfl ?_
      exact k)
  obtain ⟨T11, X11, e11, st11⟩ := getS2 X8 hx hZ hown (host := "") (Or.inl (hw _ (List.mem_of_getElem? (i := 230) rfl))) Via.refl e8 (Zs_LO_BYTE_SHIFT.ext O.2) (g := (mkF m 53 #[.val (.ref ba), .val (.int (1 : Int32))] [(.int ((own_u1 ch) &&& (255 : Int32))), (.int (((own_u0 ch) &&& (255 : Int32)) <<< ((0 : Int32) &&& 31)))])) rfl (hb hby d40_53)
  have J12 : ∀ t, Steps p.tables e below (T11.setTop (mkF m 56 #[.val (.ref ba), .val (.int (1 : Int32))] [(.int (8 : Int32)), (.int ((own_u1 ch) &&& (255 : Int32))), (.int (((own_u0 ch) &&& (255 : Int32)) <<< ((0 : Int32) &&& 31)))])) t → Steps p.tables e below (s₁.setTop (entryFrame m #[(.ref ba), (.int (0 : Int32))] 2)) t := fun t k => J10 t (st11 t k)
  have J13 : ∀ t, Steps p.tables e below (T11.setTop (mkF m 59 #[.val (.ref ba), .val (.int (1 : Int32))] [(.int (((((own_u0 ch) &&& (255 : Int32)) <<< ((0 : Int32) &&& 31)) ||| (((own_u1 ch) &&& (255 : Int32)) <<< ((8 : Int32) &&& 31))).toUInt32.toUInt16.toUInt32.toInt32))])) t → Steps p.tables e below (s₁.setTop (entryFrame m #[(.ref ba), (.int (0 : Int32))] 2)) t := fun t k => J12 t (by
      show Steps p.tables e below (T11.setTop (mkF m 56 #[.val (.ref ba), .val (.int (1 : Int32))] [(.int (8 : Int32)), (.int ((own_u1 ch) &&& (255 : Int32))), (.int (((own_u0 ch) &&& (255 : Int32)) <<< ((0 : Int32) &&& 31)))])) _
      refine XS.ishl X11.here hx rfl (hb hby d40_56) rfl ?_
      show Steps p.tables e below (T11.setTop (mkF m 57 #[.val (.ref ba), .val (.int (1 : Int32))] [(.int (((own_u1 ch) &&& (255 : Int32)) <<< ((8 : Int32) &&& 31))), (.int (((own_u0 ch) &&& (255 : Int32)) <<< ((0 : Int32) &&& 31)))])) _
      refine XS.ior X11.here hx rfl (hb hby d40_57) rfl ?_
      show Steps p.tables e below (T11.setTop (mkF m 58 #[.val (.ref ba), .val (.int (1 : Int32))] [(.int ((((own_u0 ch) &&& (255 : Int32)) <<< ((0 : Int32) &&& 31)) ||| (((own_u1 ch) &&& (255 : Int32)) <<< ((8 : Int32) &&& 31))))])) _
      refine XS.i2c X11.here hx rfl (hb hby d40_58) rfl ?_
      exact k)
  obtain ⟨fs, hr, hrun, hended, hW, hsame⟩ := X11.leave (v := some (.int (nar .char (((((own_u0 ch) &&& (255 : Int32)) <<< ((0 : Int32) &&& 31)) ||| (((own_u1 ch) &&& (255 : Int32)) <<< ((8 : Int32) &&& 31))).toUInt32.toUInt16.toUInt32.toInt32)))) (fun h => by rw [Bd.returns] at h; cases h)
  refine ⟨_, _, J13 _ ?_, hrun, hended, _, _, rfl, ?_, ⟨_, rfl⟩, hW, hsame.mono (by decide) (by decide)⟩
  · show Steps p.tables e below (T11.setTop (mkF m 59 #[.val (.ref ba), .val (.int (1 : Int32))] [(.int (((((own_u0 ch) &&& (255 : Int32)) <<< ((0 : Int32) &&& 31)) ||| (((own_u1 ch) &&& (255 : Int32)) <<< ((8 : Int32) &&& 31))).toUInt32.toUInt16.toUInt32.toInt32))])) _
    exact retN X11 hx (t := .char) Bd.returns (by simp) (hb hby d40_59) hr
  · show Q40 Z ba bcl ch h0 n0 _ T11.heap _
    rw [e11]
    exact ⟨rfl, N0, rfl⟩
theorem d41_0 : decode jdk_52_method_24_code 0 = .ok (.iconst 2, 1) := by decide +kernel
theorem d41_1 : decode jdk_52_method_24_code 1 = .ok (.newarray .byte, 2) := by decide +kernel
theorem d41_3 : decode jdk_52_method_24_code 3 = .ok (.astore_n 1, 1) := by decide +kernel
theorem d41_4 : decode jdk_52_method_24_code 4 = .ok (.aload_n 1, 1) := by decide +kernel
theorem d41_5 : decode jdk_52_method_24_code 5 = .ok (.iconst 0, 1) := by decide +kernel
theorem d41_6 : decode jdk_52_method_24_code 6 = .ok (.iload_n 0, 1) := by decide +kernel
theorem d41_7 : decode jdk_52_method_24_code 7 = .ok (.invokestatic 111, 3) := by decide +kernel
theorem pd_11 : parseMethodDescriptor "([BII)V" = some ⟨[(.array .byte), .int, .int], none⟩ := by decide +kernel
theorem d41_10 : decode jdk_52_method_24_code 10 = .ok (.aload_n 1, 1) := by decide +kernel
theorem d41_11 : decode jdk_52_method_24_code 11 = .ok (.areturn, 1) := by decide +kernel
theorem pn_41 : plainName "java/lang/StringUTF16" = true := by first | (simp [plainName, overriddenIn]; done) | decide +kernel
theorem ef_41_x (m : MethodId) (x0 : Int32) : entryFrame m #[(.int x0)] 2 = mkF m 0 #[.val (.int x0), .unset] [] := by first | (simp [entryFrame, mkF, argsToLocals, Value.category]; done) | rfl
def Q41 (Z : State) (ch : Int32) (h0 : Heap) (n0 : Nat) (v : Option Value) (h : Heap) (L : List Loc) : Prop := ∃ (ba : Addr) (bcl : Cell), v = some (.ref ba) ∧ Fr n0 L ∧ Keep h0 h [] ∧ (Arr Z h ba bcl .byte) ∧ (bcl.slots.size = 2) ∧ (bcl.slots[0]? = some (.int (own_u0 ch))) ∧ (bcl.slots[1]? = some (.int (own_u1 ch))) ∧ (n0 ≤ ba) ∧ (h0.size ≤ ba)
set_option maxRecDepth 65536 in
set_option maxHeartbeats 40000000 in
theorem rm41 (l : Launch) (Z : State) (a0 : Array Value) (hw : ∀ d ∈ tables_1, d.before a0 Z = true) (ws : List Jvm.Cond) (ch : Int32) (h0 : Heap) (n0 : Nat) (Z0 : n0 ≤ h0.size) (O : Old Z n0 h0) (Zs__assertionsDisabled : Sta Z Z.heap "java/lang/StringUTF16" "$assertionsDisabled" "Z" (.int (1 : Int32))) (Zs_HI_BYTE_SHIFT : Sta Z Z.heap "java/lang/StringUTF16" "HI_BYTE_SHIFT" "I" (.int (0 : Int32))) (Zs_LO_BYTE_SHIFT : Sta Z Z.heap "java/lang/StringUTF16" "LO_BYTE_SHIFT" "I" (.int (8 : Int32))) :
    MetFree l (⟨"java/lang/StringUTF16", "toBytes", "(C)[B"⟩ : MethodName) (head1 (Jvm.Cond.code (⟨"java/lang/StringUTF16", "toBytes", "(C)[B"⟩ : MethodName) jdk_52_method_24_code 2 (some (.array .byte)) :: ws) ({ frames := 1, cells := 1, slots := 2, locals := 14 } : Room)) (fun a U => a = #[(.int ch)] ∧ Z.Warmed39 U.vm ∧ U.heap = h0) (fun _ _ _ _ _ => True) (fun _ U o U' => ∃ v L, o = .returned v ∧ Q41 Z ch h0 n0 v U'.heap L ∧ FrameEnd U o U' L ({ frames := 1, cells := 1, slots := 2, locals := 14 } : Room).cells ({ frames := 1, cells := 1, slots := 2, locals := 14 } : Room).slots) := by
  refine MetFree.of_bodySF (plainFor_of_name pn_41) hisR ?_
  intro p e s m args below meth c s₁ Bd hml0 hP hK
  obtain ⟨rfl, hZ, hh⟩ := hP
  have hx := Bd.exec
  have hby := Bd.bytes
  have hml : c.maxLocals = 2 := hml0
  have hown : s.vm.findClass "java/lang/StringUTF16" = some m.cls := findClass_of_methodNamed Bd.named
  have hnm := (name_of_methodNamed Bd.named Bd.method).1
  have X0 : Stand p l e ({ frames := 1, cells := 1, slots := 2, locals := 14 } : Room) s m #[(.int ch)] below meth c s₁ [] 0 0 := Stand.of_body Bd
  have e0 : s₁.heap = h0 := by rw [← hh, Bd.state]; rfl
  have N0 := Fr.nil n0
  have pre0 : ∀ t, Steps p.tables e below (s₁.setTop (mkF m 0 #[.val (.int ch), .unset] [])) t → Steps p.tables e below (s₁.setTop (entryFrame m #[(.int ch)] 2)) t := fun t k => castTop (ef_41_x m ch) k
  have J1 : ∀ t, Steps p.tables e below (s₁.setTop (mkF m 1 #[.val (.int ch), .unset] [(.int (2 : Int32))])) t → Steps p.tables e below (s₁.setTop (entryFrame m #[(.int ch)] 2)) t := fun t k => pre0 t (by
      show Steps p.tables e below (s₁.setTop (mkF m 0 #[.val (.int ch), .unset] [])) _
      refine XS.iconst X0.here hx rfl (hb hby d41_0) ?_
      exact k)
  obtain ⟨T2, h2, k2, X2, e2, E2, A2, st2⟩ := newP X0 hx hZ (hw _ (List.mem_of_getElem? (i := 6) rfl)) e0 (g := (mkF m 1 #[.val (.int ch), .unset] [(.int (2 : Int32))])) rfl (hb hby d41_1) rfl (by decide) (cap := 2) (by decide) (by decide) (by decide) (by decide)
  obtain ⟨b2, g2⟩ : ∃ z, z = h0.size := ⟨_, rfl⟩
  rw [← g2] at A2 st2
  obtain ⟨cl2, hcl2⟩ : ∃ z, z = newA k2 .byte (2 : Int32) := ⟨_, rfl⟩
  have Aw2 : Arr Z h2 b2 cl2 .byte := by rw [hcl2]; exact A2
  have J3 : ∀ t, Steps p.tables e below (T2.setTop (mkF m 3 #[.val (.int ch), .unset] [(.ref b2)])) t → Steps p.tables e below (s₁.setTop (entryFrame m #[(.int ch)] 2)) t := fun t k => J1 t (st2 t k)
  have ge4 : n0 ≤ b2 := Nat.le_trans Z0 (Nat.le_of_eq g2.symm)
  have sz5 : h0.size ≤ b2 := Nat.le_trans (Keep.refl h0 []).1 (Nat.le_of_eq g2.symm)
  have Z6 : n0 ≤ h2.size := Nat.le_trans Z0 E2.1
  have KK7 : Keep h0 h2 [] := (Keep.refl h0 []).ext E2
  have hS2 : cl2.slots.size = 2 := by rw [hcl2, sz_new]; decide
  have J8 : ∀ t, Steps p.tables e below (T2.setTop (mkF m 7 #[.val (.int ch), .val (.ref b2)] [(.int ch), (.int (0 : Int32)), (.ref b2)])) t → Steps p.tables e below (s₁.setTop (entryFrame m #[(.int ch)] 2)) t := fun t k => J3 t (by
      show Steps p.tables e below (T2.setTop (mkF m 3 #[.val (.int ch), .unset] [(.ref b2)])) _
      refine XS.astoreN X2.here hx rfl (hb hby d41_3) rfl rfl (l' := #[.val (.int ch), .val (.ref b2)]) rfl ?_
      show Steps p.tables e below (T2.setTop (mkF m 4 #[.val (.int ch), .val (.ref b2)] [])) _
      refine XS.aloadN X2.here hx rfl (hb hby d41_4) rfl rfl ?_
      show Steps p.tables e below (T2.setTop (mkF m 5 #[.val (.int ch), .val (.ref b2)] [(.ref b2)])) _
      refine XS.iconst X2.here hx rfl (hb hby d41_5) ?_
      show Steps p.tables e below (T2.setTop (mkF m 6 #[.val (.int ch), .val (.ref b2)] [(.int (0 : Int32)), (.ref b2)])) _
      refine XS.iloadN X2.here hx rfl (hb hby d41_6) rfl ?_
      exact k)
  have f9 := O.ext E2
  obtain ⟨_, _, ⟨T10, L10, k10, n10⟩, -, X10, ⟨Lc10, hQ10, l10, y10, z10⟩, st10⟩ := Jvm.LawKit.callS X2 hx (y := (⟨"java/lang/StringUTF16", "putChar", "([BII)V"⟩ : MethodName)) hown (mvT hZ (hw _ (List.mem_of_getElem? (i := 225) rfl))) (mvT hZ (hw _ (List.mem_of_getElem? (i := 226) rfl))) (mvT hZ (hw _ (List.mem_of_getElem? (i := 135) rfl))) (mvT hZ (hw _ (List.mem_of_getElem? (i := 227) rfl))) (by decide) (backOf (W := 0) (rm39 l Z a0 hw [] b2 cl2 ch h2 n0 Z6 Aw2 hS2 ge4 f9 Zs__assertionsDisabled Zs_HI_BYTE_SHIFT Zs_LO_BYTE_SHIFT) hZ (hw _ (List.mem_of_getElem? (i := 227) rfl)) (hw _ (List.mem_of_getElem? (i := 135) rfl)) (by decide) (by decide)) (g := (mkF m 7 #[.val (.int ch), .val (.ref b2)] [(.int ch), (.int (0 : Int32)), (.ref b2)])) rfl (by rw [hml]; rfl) (argsL := [(.ref b2), (.int (0 : Int32)), (.int ch)]) (rest := []) (lenOf pd_11 rfl) rfl (by show 2 * 0 + _ ≤ _; exact Nat.le_of_eq rfl) (hb hby d41_7) (fun _ _ => ⟨rfl, e2, (by decide : 1 + 0 ≤ _), (by decide : 2 + 0 ≤ _)⟩)
  dsimp only [Pt.U, Pt.locs, Pt.cells, Pt.slots] at X10 l10 y10 z10 st10 hQ10
  subst y10 z10
  obtain ⟨bcl'_10, rfl, Nq10, K10, p10_1, p10_2, p10_3, p10_4⟩ := hQ10
  have N11 : Fr n0 L10 := by rw [l10]; exact Fr.app N0 Nq10
  have J12 : ∀ t, Steps p.tables e below (T10.setTop (mkF m 10 #[.val (.int ch), .val (.ref b2)] [])) t → Steps p.tables e below (s₁.setTop (entryFrame m #[(.int ch)] 2)) t := fun t k => J8 t (st10 t k)
  have Z13 : n0 ≤ T10.heap.size := Nat.le_trans Z6 K10.1
  have KK14 : Keep h0 T10.heap [] := KK7.trans K10 (allS (Or.inr sz5) all0)
  have J15 : ∀ t, Steps p.tables e below (T10.setTop (mkF m 11 #[.val (.int ch), .val (.ref b2)] [(.ref b2)])) t → Steps p.tables e below (s₁.setTop (entryFrame m #[(.int ch)] 2)) t := fun t k => J12 t (by
      show Steps p.tables e below (T10.setTop (mkF m 10 #[.val (.int ch), .val (.ref b2)] [])) _
      refine XS.aloadN X10.here hx rfl (hb hby d41_10) rfl rfl ?_
      exact k)
  obtain ⟨fs, hr, hrun, hended, hW, hsame⟩ := X10.leave (v := some (.ref b2)) (fun h => by rw [Bd.returns] at h; cases h)
  refine ⟨_, _, J15 _ ?_, hrun, hended, _, _, rfl, ?_, ⟨_, rfl⟩, hW, hsame.mono (by decide) (by decide)⟩
  · show Steps p.tables e below (T10.setTop (mkF m 11 #[.val (.int ch), .val (.ref b2)] [(.ref b2)])) _
    jvm_step X10.here [X10.here.top, hx, (hb hby d41_11), X10.method', Bd.returns, Value.isRef, FieldType.isReference]
    first | (intro acts; rw [hr _ acts rfl rfl rfl]) | rw [hr _ _ rfl rfl rfl]
    exact Steps.refl _
  · show Q41 Z ch h0 n0 _ T10.heap _
    exact ⟨b2, bcl'_10, rfl, N11, KK14, p10_1, p10_2, p10_3, p10_4, ge4, sz5⟩
theorem d36_0 : decode jdk_52_method_14_code 0 = .ok (.iload_n 2, 1) := by decide +kernel
theorem d36_1 : decode jdk_52_method_14_code 1 = .ok (.invokestatic 107, 3) := by decide +kernel
theorem pd_12 : parseMethodDescriptor "(I)[B" = some ⟨[.int], some (.array .byte)⟩ := by decide +kernel
theorem d36_4 : decode jdk_52_method_14_code 4 = .ok (.astore_n 3, 1) := by decide +kernel
theorem d36_5 : decode jdk_52_method_14_code 5 = .ok (.iconst 0, 1) := by decide +kernel
theorem d36_6 : decode jdk_52_method_14_code 6 = .ok (.istore 4, 2) := by decide +kernel
theorem d36_8 : decode jdk_52_method_14_code 8 = .ok (.iload 4, 2) := by decide +kernel
theorem d36_10 : decode jdk_52_method_14_code 10 = .ok (.iload_n 2, 1) := by decide +kernel
theorem d36_11 : decode jdk_52_method_14_code 11 = .ok (.if_icmp .ge 21, 3) := by decide +kernel
theorem d36_14 : decode jdk_52_method_14_code 14 = .ok (.aload_n 3, 1) := by decide +kernel
theorem d36_15 : decode jdk_52_method_14_code 15 = .ok (.iload 4, 2) := by decide +kernel
theorem d36_17 : decode jdk_52_method_14_code 17 = .ok (.aload_n 0, 1) := by decide +kernel
theorem d36_18 : decode jdk_52_method_14_code 18 = .ok (.iload_n 1, 1) := by decide +kernel
theorem d36_19 : decode jdk_52_method_14_code 19 = .ok (.caload, 1) := by decide +kernel
theorem d36_20 : decode jdk_52_method_14_code 20 = .ok (.invokestatic 111, 3) := by decide +kernel
theorem d36_23 : decode jdk_52_method_14_code 23 = .ok (.iinc 1 1, 3) := by decide +kernel
theorem d36_26 : decode jdk_52_method_14_code 26 = .ok (.iinc 4 1, 3) := by decide +kernel
theorem d36_29 : decode jdk_52_method_14_code 29 = .ok (.goto (-21), 3) := by decide +kernel
theorem d36_32 : decode jdk_52_method_14_code 32 = .ok (.aload_n 3, 1) := by decide +kernel
theorem d36_33 : decode jdk_52_method_14_code 33 = .ok (.areturn, 1) := by decide +kernel
theorem pn_36 : plainName "java/lang/StringUTF16" = true := by first | (simp [plainName, overriddenIn]; done) | decide +kernel
theorem ef_36_xxx (m : MethodId) (x0 : Addr) (x1 : Int32) (x2 : Int32) : entryFrame m #[(.ref x0), (.int x1), (.int x2)] 5 = mkF m 0 #[.val (.ref x0), .val (.int x1), .val (.int x2), .unset, .unset] [] := by first | (simp [entryFrame, mkF, argsToLocals, Value.category]; done) | rfl
def Q36 (Z : State) (ca : Addr) (ccl : Cell) (ch : Int32) (h0 : Heap) (n0 : Nat) (v : Option Value) (h : Heap) (L : List Loc) : Prop := ∃ (ba : Addr) (bcl : Cell), v = some (.ref ba) ∧ Fr n0 L ∧ Keep h0 h [] ∧ (Arr Z h ba bcl .byte) ∧ (bcl.slots.size = 2) ∧ (bcl.slots[0]? = some (.int (own_u0 ch))) ∧ (bcl.slots[1]? = some (.int (own_u1 ch))) ∧ (n0 ≤ ba) ∧ (h0.size ≤ ba)
set_option maxRecDepth 65536 in
set_option maxHeartbeats 40000000 in
theorem rm36 (l : Launch) (Z : State) (a0 : Array Value) (hw : ∀ d ∈ tables_1, d.before a0 Z = true) (ws : List Jvm.Cond) (ca : Addr) (ccl : Cell) (ch : Int32) (h0 : Heap) (n0 : Nat) (Z0 : n0 ≤ h0.size) (Ar_ca : Arr Z h0 ca ccl .char) (hcz : ccl.slots.size = 256) (hc0 : ccl.slots[0]? = some (.int ch)) (O : Old Z n0 h0) (Zs__assertionsDisabled : Sta Z Z.heap "java/lang/StringUTF16" "$assertionsDisabled" "Z" (.int (1 : Int32))) (Zs_HI_BYTE_SHIFT : Sta Z Z.heap "java/lang/StringUTF16" "HI_BYTE_SHIFT" "I" (.int (0 : Int32))) (Zs_LO_BYTE_SHIFT : Sta Z Z.heap "java/lang/StringUTF16" "LO_BYTE_SHIFT" "I" (.int (8 : Int32))) :
    MetFree l (⟨"java/lang/StringUTF16", "toBytes", "([CII)[B"⟩ : MethodName) (head1 (Jvm.Cond.code (⟨"java/lang/StringUTF16", "toBytes", "([CII)[B"⟩ : MethodName) jdk_52_method_14_code 5 (some (.array .byte)) :: ws) ({ frames := 2, cells := 1, slots := 2, locals := 24 } : Room)) (fun a U => a = #[(.ref ca), (.int (0 : Int32)), (.int (1 : Int32))] ∧ Z.Warmed39 U.vm ∧ U.heap = h0) (fun _ _ _ _ _ => True) (fun _ U o U' => ∃ v L, o = .returned v ∧ Q36 Z ca ccl ch h0 n0 v U'.heap L ∧ FrameEnd U o U' L ({ frames := 2, cells := 1, slots := 2, locals := 24 } : Room).cells ({ frames := 2, cells := 1, slots := 2, locals := 24 } : Room).slots) := by
  refine MetFree.of_bodySF (plainFor_of_name pn_36) hisR ?_
  intro p e s m args below meth c s₁ Bd hml0 hP hK
  obtain ⟨rfl, hZ, hh⟩ := hP
  have hx := Bd.exec
  have hby := Bd.bytes
  have hml : c.maxLocals = 5 := hml0
  have hown : s.vm.findClass "java/lang/StringUTF16" = some m.cls := findClass_of_methodNamed Bd.named
  have hnm := (name_of_methodNamed Bd.named Bd.method).1
  have X0 : Stand p l e ({ frames := 2, cells := 1, slots := 2, locals := 24 } : Room) s m #[(.ref ca), (.int (0 : Int32)), (.int (1 : Int32))] below meth c s₁ [] 0 0 := Stand.of_body Bd
  have e0 : s₁.heap = h0 := by rw [← hh, Bd.state]; rfl
  have N0 := Fr.nil n0
  have pre0 : ∀ t, Steps p.tables e below (s₁.setTop (mkF m 0 #[.val (.ref ca), .val (.int (0 : Int32)), .val (.int (1 : Int32)), .unset, .unset] [])) t → Steps p.tables e below (s₁.setTop (entryFrame m #[(.ref ca), (.int (0 : Int32)), (.int (1 : Int32))] 5)) t := fun t k => castTop (ef_36_xxx m ca (0 : Int32) (1 : Int32)) k
  have J1 : ∀ t, Steps p.tables e below (s₁.setTop (mkF m 1 #[.val (.ref ca), .val (.int (0 : Int32)), .val (.int (1 : Int32)), .unset, .unset] [(.int (1 : Int32))])) t → Steps p.tables e below (s₁.setTop (entryFrame m #[(.ref ca), (.int (0 : Int32)), (.int (1 : Int32))] 5)) t := fun t k => pre0 t (by
      show Steps p.tables e below (s₁.setTop (mkF m 0 #[.val (.ref ca), .val (.int (0 : Int32)), .val (.int (1 : Int32)), .unset, .unset] [])) _
      refine XS.iloadN X0.here hx rfl (hb hby d36_0) rfl ?_
      exact k)
  obtain ⟨_, _, ⟨T2, L2, k2, n2⟩, -, X2, ⟨Lc2, hQ2, l2, y2, z2⟩, st2⟩ := Jvm.LawKit.callS X0 hx (y := (⟨"java/lang/StringUTF16", "newBytesFor", "(I)[B"⟩ : MethodName)) hown (mvT hZ (hw _ (List.mem_of_getElem? (i := 218) rfl))) (mvT hZ (hw _ (List.mem_of_getElem? (i := 219) rfl))) (mvT hZ (hw _ (List.mem_of_getElem? (i := 135) rfl))) (mvT hZ (hw _ (List.mem_of_getElem? (i := 220) rfl))) (by decide) (backOf (W := 0) (rm37 l Z a0 hw []  h0 n0 Z0 ) hZ (hw _ (List.mem_of_getElem? (i := 220) rfl)) (hw _ (List.mem_of_getElem? (i := 135) rfl)) (by decide) (by decide)) (g := (mkF m 1 #[.val (.ref ca), .val (.int (0 : Int32)), .val (.int (1 : Int32)), .unset, .unset] [(.int (1 : Int32))])) rfl (by rw [hml]; rfl) (argsL := [(.int (1 : Int32))]) (rest := []) (lenOf pd_12 rfl) rfl (by show 2 * 0 + _ ≤ _; exact Nat.le_of_eq rfl) (hb hby d36_1) (fun _ _ => ⟨rfl, e0, (by decide : 0 + 1 ≤ _), (by decide : 0 + 2 ≤ _)⟩)
  dsimp only [Pt.U, Pt.locs, Pt.cells, Pt.slots] at X2 l2 y2 z2 st2 hQ2
  subst y2 z2
  obtain ⟨ba_2, bcl_2, rfl, Nq2, K2, p2_1, p2_2, p2_3, p2_4⟩ := hQ2
  have N3 : Fr n0 L2 := by rw [l2]; exact Fr.app N0 Nq2
  have J4 : ∀ t, Steps p.tables e below (T2.setTop (mkF m 4 #[.val (.ref ca), .val (.int (0 : Int32)), .val (.int (1 : Int32)), .unset, .unset] [(.ref ba_2)])) t → Steps p.tables e below (s₁.setTop (entryFrame m #[(.ref ca), (.int (0 : Int32)), (.int (1 : Int32))] 5)) t := fun t k => J1 t (st2 t k)
  have Z5 : n0 ≤ T2.heap.size := Nat.le_trans Z0 K2.1
  have KK6 : Keep h0 T2.heap [] := (Keep.refl h0 []).trans K2 all0
  have J7 : ∀ t, Steps p.tables e below (T2.setTop (mkF m 19 #[.val (.ref ca), .val (.int (0 : Int32)), .val (.int (1 : Int32)), .val (.ref ba_2), .val (.int (0 : Int32))] [(.int (0 : Int32)), (.ref ca), (.int (0 : Int32)), (.ref ba_2)])) t → Steps p.tables e below (s₁.setTop (entryFrame m #[(.ref ca), (.int (0 : Int32)), (.int (1 : Int32))] 5)) t := fun t k => J4 t (by
      show Steps p.tables e below (T2.setTop (mkF m 4 #[.val (.ref ca), .val (.int (0 : Int32)), .val (.int (1 : Int32)), .unset, .unset] [(.ref ba_2)])) _
      refine XS.astoreN X2.here hx rfl (hb hby d36_4) rfl rfl (l' := #[.val (.ref ca), .val (.int (0 : Int32)), .val (.int (1 : Int32)), .val (.ref ba_2), .unset]) rfl ?_
      show Steps p.tables e below (T2.setTop (mkF m 5 #[.val (.ref ca), .val (.int (0 : Int32)), .val (.int (1 : Int32)), .val (.ref ba_2), .unset] [])) _
      refine XS.iconst X2.here hx rfl (hb hby d36_5) ?_
      show Steps p.tables e below (T2.setTop (mkF m 6 #[.val (.ref ca), .val (.int (0 : Int32)), .val (.int (1 : Int32)), .val (.ref ba_2), .unset] [(.int (0 : Int32))])) _
      refine XS.istore X2.here hx rfl (hb hby d36_6) rfl (l' := #[.val (.ref ca), .val (.int (0 : Int32)), .val (.int (1 : Int32)), .val (.ref ba_2), .val (.int (0 : Int32))]) rfl ?_
      show Steps p.tables e below (T2.setTop (mkF m 8 #[.val (.ref ca), .val (.int (0 : Int32)), .val (.int (1 : Int32)), .val (.ref ba_2), .val (.int (0 : Int32))] [])) _
      refine XS.iload X2.here hx rfl (hb hby d36_8) rfl ?_
      show Steps p.tables e below (T2.setTop (mkF m 10 #[.val (.ref ca), .val (.int (0 : Int32)), .val (.int (1 : Int32)), .val (.ref ba_2), .val (.int (0 : Int32))] [(.int (0 : Int32))])) _
      refine XS.iloadN X2.here hx rfl (hb hby d36_10) rfl ?_
      show Steps p.tables e below (T2.setTop (mkF m 11 #[.val (.ref ca), .val (.int (0 : Int32)), .val (.int (1 : Int32)), .val (.ref ba_2), .val (.int (0 : Int32))] [(.int (1 : Int32)), (.int (0 : Int32))])) _
      refine XS.icmpNo X2.here hx rfl (hb hby d36_11) rfl (tlt (by decide)).2.1 ?_
      show Steps p.tables e below (T2.setTop (mkF m 14 #[.val (.ref ca), .val (.int (0 : Int32)), .val (.int (1 : Int32)), .val (.ref ba_2), .val (.int (0 : Int32))] [])) _
      refine XS.aloadN X2.here hx rfl (hb hby d36_14) rfl rfl ?_
      show Steps p.tables e below (T2.setTop (mkF m 15 #[.val (.ref ca), .val (.int (0 : Int32)), .val (.int (1 : Int32)), .val (.ref ba_2), .val (.int (0 : Int32))] [(.ref ba_2)])) _
      refine XS.iload X2.here hx rfl (hb hby d36_15) rfl ?_
      show Steps p.tables e below (T2.setTop (mkF m 17 #[.val (.ref ca), .val (.int (0 : Int32)), .val (.int (1 : Int32)), .val (.ref ba_2), .val (.int (0 : Int32))] [(.int (0 : Int32)), (.ref ba_2)])) _
      refine XS.aloadN X2.here hx rfl (hb hby d36_17) rfl rfl ?_
      show Steps p.tables e below (T2.setTop (mkF m 18 #[.val (.ref ca), .val (.int (0 : Int32)), .val (.int (1 : Int32)), .val (.ref ba_2), .val (.int (0 : Int32))] [(.ref ca), (.int (0 : Int32)), (.ref ba_2)])) _
      refine XS.iloadN X2.here hx rfl (hb hby d36_18) rfl ?_
      exact k)
  have f8 : Arr Z T2.heap ca ccl .char := ⟨K2.2.1 _ _ Ar_ca.1 nin0, Ar_ca.2⟩
  have J9 : ∀ t, Steps p.tables e below (T2.setTop (mkF m 20 #[.val (.ref ca), .val (.int (0 : Int32)), .val (.int (1 : Int32)), .val (.ref ba_2), .val (.int (0 : Int32))] [(.int ch), (.int (0 : Int32)), (.ref ba_2)])) t → Steps p.tables e below (s₁.setTop (entryFrame m #[(.ref ca), (.int (0 : Int32)), (.int (1 : Int32))] 5)) t := fun t k => J7 t (by
      show Steps p.tables e below (T2.setTop (mkF m 19 #[.val (.ref ca), .val (.int (0 : Int32)), .val (.int (1 : Int32)), .val (.ref ba_2), .val (.int (0 : Int32))] [(.int (0 : Int32)), (.ref ca), (.int (0 : Int32)), (.ref ba_2)])) _
      refine X2.caload hx (j := (0 : Int32)) (v := (.int ch)) f8.1 (State.isArrayOf_alike hZ.alike f8.2.1) f8.2.2 (own_in hcz (by decide) (by decide)) (own_at (by decide) hc0) (g := (mkF m 19 #[.val (.ref ca), .val (.int (0 : Int32)), .val (.int (1 : Int32)), .val (.ref ba_2), .val (.int (0 : Int32))] [(.int (0 : Int32)), (.ref ca), (.int (0 : Int32)), (.ref ba_2)])) rfl rfl (hb hby d36_19) _ ?_
      exact k)
  have f10 := O.keep K2 all0
  obtain ⟨_, _, ⟨T11, L11, k11, n11⟩, -, X11, ⟨Lc11, hQ11, l11, y11, z11⟩, st11⟩ := Jvm.LawKit.callS X2 hx (y := (⟨"java/lang/StringUTF16", "putChar", "([BII)V"⟩ : MethodName)) hown (mvT hZ (hw _ (List.mem_of_getElem? (i := 225) rfl))) (mvT hZ (hw _ (List.mem_of_getElem? (i := 226) rfl))) (mvT hZ (hw _ (List.mem_of_getElem? (i := 135) rfl))) (mvT hZ (hw _ (List.mem_of_getElem? (i := 227) rfl))) (by decide) (backOf (W := 0) (rm39 l Z a0 hw [] ba_2 bcl_2 ch T2.heap n0 Z5 p2_1 p2_2 p2_3 f10 Zs__assertionsDisabled Zs_HI_BYTE_SHIFT Zs_LO_BYTE_SHIFT) hZ (hw _ (List.mem_of_getElem? (i := 227) rfl)) (hw _ (List.mem_of_getElem? (i := 135) rfl)) (by decide) (by decide)) (g := (mkF m 20 #[.val (.ref ca), .val (.int (0 : Int32)), .val (.int (1 : Int32)), .val (.ref ba_2), .val (.int (0 : Int32))] [(.int ch), (.int (0 : Int32)), (.ref ba_2)])) rfl (by rw [hml]; rfl) (argsL := [(.ref ba_2), (.int (0 : Int32)), (.int ch)]) (rest := []) (lenOf pd_11 rfl) rfl (by show 2 * 0 + _ ≤ _; exact Nat.le_of_eq rfl) (hb hby d36_20) (fun _ _ => ⟨rfl, rfl, (by decide : 1 + 0 ≤ _), (by decide : 2 + 0 ≤ _)⟩)
  dsimp only [Pt.U, Pt.locs, Pt.cells, Pt.slots] at X11 l11 y11 z11 st11 hQ11
  subst y11 z11
  obtain ⟨bcl'_11, rfl, Nq11, K11, p11_1, p11_2, p11_3, p11_4⟩ := hQ11
  have N12 : Fr n0 L11 := by rw [l11]; exact Fr.app N3 Nq11
  have J13 : ∀ t, Steps p.tables e below (T11.setTop (mkF m 23 #[.val (.ref ca), .val (.int (0 : Int32)), .val (.int (1 : Int32)), .val (.ref ba_2), .val (.int (0 : Int32))] [])) t → Steps p.tables e below (s₁.setTop (entryFrame m #[(.ref ca), (.int (0 : Int32)), (.int (1 : Int32))] 5)) t := fun t k => J9 t (st11 t k)
  have Z14 : n0 ≤ T11.heap.size := Nat.le_trans Z5 K11.1
  have KK15 : Keep h0 T11.heap [] := KK6.trans K11 (allS (Or.inr (Nat.le_trans (Keep.refl h0 []).1 p2_4)) all0)
  have J16 : ∀ t, Steps p.tables e below (T11.setTop (mkF m 33 #[.val (.ref ca), .val (.int ((0 : Int32) + (1 : Int32))), .val (.int (1 : Int32)), .val (.ref ba_2), .val (.int ((0 : Int32) + (1 : Int32)))] [(.ref ba_2)])) t → Steps p.tables e below (s₁.setTop (entryFrame m #[(.ref ca), (.int (0 : Int32)), (.int (1 : Int32))] 5)) t := fun t k => J13 t (by
      show Steps p.tables e below (T11.setTop (mkF m 23 #[.val (.ref ca), .val (.int (0 : Int32)), .val (.int (1 : Int32)), .val (.ref ba_2), .val (.int (0 : Int32))] [])) _
      refine XS.iinc X11.here hx rfl (hb hby d36_23) rfl (l' := #[.val (.ref ca), .val (.int ((0 : Int32) + (1 : Int32))), .val (.int (1 : Int32)), .val (.ref ba_2), .val (.int (0 : Int32))]) rfl ?_
      show Steps p.tables e below (T11.setTop (mkF m 26 #[.val (.ref ca), .val (.int ((0 : Int32) + (1 : Int32))), .val (.int (1 : Int32)), .val (.ref ba_2), .val (.int (0 : Int32))] [])) _
      refine XS.iinc X11.here hx rfl (hb hby d36_26) rfl (l' := #[.val (.ref ca), .val (.int ((0 : Int32) + (1 : Int32))), .val (.int (1 : Int32)), .val (.ref ba_2), .val (.int ((0 : Int32) + (1 : Int32)))]) rfl ?_
      show Steps p.tables e below (T11.setTop (mkF m 29 #[.val (.ref ca), .val (.int ((0 : Int32) + (1 : Int32))), .val (.int (1 : Int32)), .val (.ref ba_2), .val (.int ((0 : Int32) + (1 : Int32)))] [])) _
      refine XS.goto X11.here hx rfl (pc0 := 29) (pc' := 8) rfl (hb hby d36_29) (by decide) (by decide) ?_
      show Steps p.tables e below (T11.setTop (mkF m 8 #[.val (.ref ca), .val (.int ((0 : Int32) + (1 : Int32))), .val (.int (1 : Int32)), .val (.ref ba_2), .val (.int ((0 : Int32) + (1 : Int32)))] [])) _
      refine XS.iload X11.here hx rfl (hb hby d36_8) rfl ?_
      show Steps p.tables e below (T11.setTop (mkF m 10 #[.val (.ref ca), .val (.int ((0 : Int32) + (1 : Int32))), .val (.int (1 : Int32)), .val (.ref ba_2), .val (.int ((0 : Int32) + (1 : Int32)))] [(.int ((0 : Int32) + (1 : Int32)))])) _
      refine XS.iloadN X11.here hx rfl (hb hby d36_10) rfl ?_
      show Steps p.tables e below (T11.setTop (mkF m 11 #[.val (.ref ca), .val (.int ((0 : Int32) + (1 : Int32))), .val (.int (1 : Int32)), .val (.ref ba_2), .val (.int ((0 : Int32) + (1 : Int32)))] [(.int (1 : Int32)), (.int ((0 : Int32) + (1 : Int32)))])) _
      refine XS.icmpYes X11.here hx rfl (pc0 := 11) (pc' := 32) rfl (hb hby d36_11) rfl (flt (by decide)).2.1 (by decide) (by decide) ?_
      show Steps p.tables e below (T11.setTop (mkF m 32 #[.val (.ref ca), .val (.int ((0 : Int32) + (1 : Int32))), .val (.int (1 : Int32)), .val (.ref ba_2), .val (.int ((0 : Int32) + (1 : Int32)))] [])) _
      refine XS.aloadN X11.here hx rfl (hb hby d36_32) rfl rfl ?_
      exact k)
  obtain ⟨fs, hr, hrun, hended, hW, hsame⟩ := X11.leave (v := some (.ref ba_2)) (fun h => by rw [Bd.returns] at h; cases h)
  refine ⟨_, _, J16 _ ?_, hrun, hended, _, _, rfl, ?_, ⟨_, rfl⟩, hW, hsame.mono (by decide) (by decide)⟩
  · show Steps p.tables e below (T11.setTop (mkF m 33 #[.val (.ref ca), .val (.int ((0 : Int32) + (1 : Int32))), .val (.int (1 : Int32)), .val (.ref ba_2), .val (.int ((0 : Int32) + (1 : Int32)))] [(.ref ba_2)])) _
    jvm_step X11.here [X11.here.top, hx, (hb hby d36_33), X11.method', Bd.returns, Value.isRef, FieldType.isReference]
    first | (intro acts; rw [hr _ acts rfl rfl rfl]) | rw [hr _ _ rfl rfl rfl]
    exact Steps.refl _
  · show Q36 Z ca ccl ch h0 n0 _ T11.heap _
    exact ⟨ba_2, bcl'_11, rfl, N12, KK15, p11_1, p11_2, p11_3, p11_4, p2_3, (Nat.le_trans (Keep.refl h0 []).1 p2_4)⟩
theorem d21_0 : decode jdk_52_method_21_code 0 = .ok (.iconst 0, 1) := by decide +kernel
theorem d21_1 : decode jdk_52_method_21_code 1 = .ok (.istore 5, 2) := by decide +kernel
theorem d21_3 : decode jdk_52_method_21_code 3 = .ok (.iload 5, 2) := by decide +kernel
theorem d21_5 : decode jdk_52_method_21_code 5 = .ok (.iload 4, 2) := by decide +kernel
theorem d21_7 : decode jdk_52_method_21_code 7 = .ok (.if_icmp .ge 37, 3) := by decide +kernel
theorem d21_10 : decode jdk_52_method_21_code 10 = .ok (.aload_n 0, 1) := by decide +kernel
theorem d21_11 : decode jdk_52_method_21_code 11 = .ok (.iload_n 1, 1) := by decide +kernel
theorem d21_12 : decode jdk_52_method_21_code 12 = .ok (.caload, 1) := by decide +kernel
theorem d21_13 : decode jdk_52_method_21_code 13 = .ok (.istore 6, 2) := by decide +kernel
theorem d21_15 : decode jdk_52_method_21_code 15 = .ok (.iload 6, 2) := by decide +kernel
theorem d21_17 : decode jdk_52_method_21_code 17 = .ok (.sipush 255, 3) := by decide +kernel
theorem d21_20 : decode jdk_52_method_21_code 20 = .ok (.if_icmp .le 6, 3) := by decide +kernel
theorem d21_26 : decode jdk_52_method_21_code 26 = .ok (.aload_n 2, 1) := by decide +kernel
theorem d21_27 : decode jdk_52_method_21_code 27 = .ok (.iload_n 3, 1) := by decide +kernel
theorem d21_28 : decode jdk_52_method_21_code 28 = .ok (.iload 6, 2) := by decide +kernel
theorem d21_30 : decode jdk_52_method_21_code 30 = .ok (.i2b, 1) := by decide +kernel
theorem d21_31 : decode jdk_52_method_21_code 31 = .ok (.bastore, 1) := by decide +kernel
theorem d21_32 : decode jdk_52_method_21_code 32 = .ok (.iinc 1 1, 3) := by decide +kernel
theorem d21_35 : decode jdk_52_method_21_code 35 = .ok (.iinc 3 1, 3) := by decide +kernel
theorem d21_38 : decode jdk_52_method_21_code 38 = .ok (.iinc 5 1, 3) := by decide +kernel
theorem d21_41 : decode jdk_52_method_21_code 41 = .ok (.goto (-38), 3) := by decide +kernel
theorem d21_44 : decode jdk_52_method_21_code 44 = .ok (.iload 4, 2) := by decide +kernel
theorem d21_46 : decode jdk_52_method_21_code 46 = .ok (.ireturn, 1) := by decide +kernel
theorem pn_21 : plainName "java/lang/StringUTF16" = true := by first | (simp [plainName, overriddenIn]; done) | decide +kernel
theorem ef_21_xxxxx (m : MethodId) (x0 : Addr) (x1 : Int32) (x2 : Addr) (x3 : Int32) (x4 : Int32) : entryFrame m #[(.ref x0), (.int x1), (.ref x2), (.int x3), (.int x4)] 7 = mkF m 0 #[.val (.ref x0), .val (.int x1), .val (.ref x2), .val (.int x3), .val (.int x4), .unset, .unset] [] := by first | (simp [entryFrame, mkF, argsToLocals, Value.category]; done) | rfl
def Q21L (Z : State) (ca : Addr) (ccl : Cell) (ch : Int32) (ba : Addr) (bcl : Cell) (h0 : Heap) (n0 : Nat) (v : Option Value) (h : Heap) (L : List Loc) : Prop := ∃ (bcl' : Cell), v = some (.int (1 : Int32)) ∧ Fr n0 L ∧ Keep h0 h [ba] ∧ (Arr Z h ba bcl' .byte) ∧ (bcl'.slots.size = 1) ∧ (bcl'.slots[0]? = some (.int (nar .byte (ch.toInt8.toInt32))))
set_option maxRecDepth 65536 in
set_option maxHeartbeats 40000000 in
theorem rm21L (l : Launch) (Z : State) (a0 : Array Value) (hw : ∀ d ∈ tables_1, d.before a0 Z = true) (ws : List Jvm.Cond) (ca : Addr) (ccl : Cell) (ch : Int32) (ba : Addr) (bcl : Cell) (h0 : Heap) (n0 : Nat) (Z0 : n0 ≤ h0.size) (Ar_ca : Arr Z h0 ca ccl .char) (hcz : ccl.slots.size = 256) (hc0 : ccl.slots[0]? = some (.int ch)) (Ar_ba : Arr Z h0 ba bcl .byte) (hbz : bcl.slots.size = 1) (g_ba : n0 ≤ ba) (ne_ca_ba : ca ≠ ba) (hk : ¬ (255 : Int32) < ch) :
    MetFree l (⟨"java/lang/StringUTF16", "compress", "([CI[BII)I"⟩ : MethodName) (head1 (Jvm.Cond.code (⟨"java/lang/StringUTF16", "compress", "([CI[BII)I"⟩ : MethodName) jdk_52_method_21_code 7 (some .int) :: ws) ({ frames := 0, cells := 0, slots := 0, locals := 0 } : Room)) (fun a U => a = #[(.ref ca), (.int (0 : Int32)), (.ref ba), (.int (0 : Int32)), (.int (1 : Int32))] ∧ Z.Warmed39 U.vm ∧ U.heap = h0) (fun _ _ _ _ _ => True) (fun _ U o U' => ∃ v L, o = .returned v ∧ Q21L Z ca ccl ch ba bcl h0 n0 v U'.heap L ∧ FrameEnd U o U' L ({ frames := 0, cells := 0, slots := 0, locals := 0 } : Room).cells ({ frames := 0, cells := 0, slots := 0, locals := 0 } : Room).slots) := by
  refine MetFree.of_bodySF (plainFor_of_name pn_21) hisR ?_
  intro p e s m args below meth c s₁ Bd hml0 hP hK
  obtain ⟨rfl, hZ, hh⟩ := hP
  have hx := Bd.exec
  have hby := Bd.bytes
  have hml : c.maxLocals = 7 := hml0
  have hown : s.vm.findClass "java/lang/StringUTF16" = some m.cls := findClass_of_methodNamed Bd.named
  have hnm := (name_of_methodNamed Bd.named Bd.method).1
  have X0 : Stand p l e ({ frames := 0, cells := 0, slots := 0, locals := 0 } : Room) s m #[(.ref ca), (.int (0 : Int32)), (.ref ba), (.int (0 : Int32)), (.int (1 : Int32))] below meth c s₁ [] 0 0 := Stand.of_body Bd
  have e0 : s₁.heap = h0 := by rw [← hh, Bd.state]; rfl
  have N0 := Fr.nil n0
  have pre0 : ∀ t, Steps p.tables e below (s₁.setTop (mkF m 0 #[.val (.ref ca), .val (.int (0 : Int32)), .val (.ref ba), .val (.int (0 : Int32)), .val (.int (1 : Int32)), .unset, .unset] [])) t → Steps p.tables e below (s₁.setTop (entryFrame m #[(.ref ca), (.int (0 : Int32)), (.ref ba), (.int (0 : Int32)), (.int (1 : Int32))] 7)) t := fun t k => castTop (ef_21_xxxxx m ca (0 : Int32) ba (0 : Int32) (1 : Int32)) k
  have J1 : ∀ t, Steps p.tables e below (s₁.setTop (mkF m 31 #[.val (.ref ca), .val (.int (0 : Int32)), .val (.ref ba), .val (.int (0 : Int32)), .val (.int (1 : Int32)), .val (.int (0 : Int32)), .val (.int ch)] [(.int (ch.toInt8.toInt32)), (.int (0 : Int32)), (.ref ba)])) t → Steps p.tables e below (s₁.setTop (entryFrame m #[(.ref ca), (.int (0 : Int32)), (.ref ba), (.int (0 : Int32)), (.int (1 : Int32))] 7)) t := fun t k => pre0 t (by
      show Steps p.tables e below (s₁.setTop (mkF m 0 #[.val (.ref ca), .val (.int (0 : Int32)), .val (.ref ba), .val (.int (0 : Int32)), .val (.int (1 : Int32)), .unset, .unset] [])) _
      refine XS.iconst X0.here hx rfl (hb hby d21_0) ?_
      show Steps p.tables e below (s₁.setTop (mkF m 1 #[.val (.ref ca), .val (.int (0 : Int32)), .val (.ref ba), .val (.int (0 : Int32)), .val (.int (1 : Int32)), .unset, .unset] [(.int (0 : Int32))])) _
      refine XS.istore X0.here hx rfl (hb hby d21_1) rfl (l' := #[.val (.ref ca), .val (.int (0 : Int32)), .val (.ref ba), .val (.int (0 : Int32)), .val (.int (1 : Int32)), .val (.int (0 : Int32)), .unset]) rfl ?_
      show Steps p.tables e below (s₁.setTop (mkF m 3 #[.val (.ref ca), .val (.int (0 : Int32)), .val (.ref ba), .val (.int (0 : Int32)), .val (.int (1 : Int32)), .val (.int (0 : Int32)), .unset] [])) _
      refine XS.iload X0.here hx rfl (hb hby d21_3) rfl ?_
      show Steps p.tables e below (s₁.setTop (mkF m 5 #[.val (.ref ca), .val (.int (0 : Int32)), .val (.ref ba), .val (.int (0 : Int32)), .val (.int (1 : Int32)), .val (.int (0 : Int32)), .unset] [(.int (0 : Int32))])) _
      refine XS.iload X0.here hx rfl (hb hby d21_5) rfl ?_
      show Steps p.tables e below (s₁.setTop (mkF m 7 #[.val (.ref ca), .val (.int (0 : Int32)), .val (.ref ba), .val (.int (0 : Int32)), .val (.int (1 : Int32)), .val (.int (0 : Int32)), .unset] [(.int (1 : Int32)), (.int (0 : Int32))])) _
      refine XS.icmpNo X0.here hx rfl (hb hby d21_7) rfl (tlt (by decide)).2.1 ?_
      show Steps p.tables e below (s₁.setTop (mkF m 10 #[.val (.ref ca), .val (.int (0 : Int32)), .val (.ref ba), .val (.int (0 : Int32)), .val (.int (1 : Int32)), .val (.int (0 : Int32)), .unset] [])) _
      refine XS.aloadN X0.here hx rfl (hb hby d21_10) rfl rfl ?_
      show Steps p.tables e below (s₁.setTop (mkF m 11 #[.val (.ref ca), .val (.int (0 : Int32)), .val (.ref ba), .val (.int (0 : Int32)), .val (.int (1 : Int32)), .val (.int (0 : Int32)), .unset] [(.ref ca)])) _
      refine XS.iloadN X0.here hx rfl (hb hby d21_11) rfl ?_
      show Steps p.tables e below (s₁.setTop (mkF m 12 #[.val (.ref ca), .val (.int (0 : Int32)), .val (.ref ba), .val (.int (0 : Int32)), .val (.int (1 : Int32)), .val (.int (0 : Int32)), .unset] [(.int (0 : Int32)), (.ref ca)])) _
      refine X0.caload hx (j := (0 : Int32)) (v := (.int ch)) (by rw [e0]; exact Ar_ca.1) (State.isArrayOf_alike hZ.alike Ar_ca.2.1) Ar_ca.2.2 (own_in hcz (by decide) (by decide)) (own_at (by decide) hc0) (g := (mkF m 12 #[.val (.ref ca), .val (.int (0 : Int32)), .val (.ref ba), .val (.int (0 : Int32)), .val (.int (1 : Int32)), .val (.int (0 : Int32)), .unset] [(.int (0 : Int32)), (.ref ca)])) rfl rfl (hb hby d21_12) _ ?_
      show Steps p.tables e below (s₁.setTop (mkF m 13 #[.val (.ref ca), .val (.int (0 : Int32)), .val (.ref ba), .val (.int (0 : Int32)), .val (.int (1 : Int32)), .val (.int (0 : Int32)), .unset] [(.int ch)])) _
      refine XS.istore X0.here hx rfl (hb hby d21_13) rfl (l' := #[.val (.ref ca), .val (.int (0 : Int32)), .val (.ref ba), .val (.int (0 : Int32)), .val (.int (1 : Int32)), .val (.int (0 : Int32)), .val (.int ch)]) rfl ?_
      show Steps p.tables e below (s₁.setTop (mkF m 15 #[.val (.ref ca), .val (.int (0 : Int32)), .val (.ref ba), .val (.int (0 : Int32)), .val (.int (1 : Int32)), .val (.int (0 : Int32)), .val (.int ch)] [])) _
      refine XS.iload X0.here hx rfl (hb hby d21_15) rfl ?_
      show Steps p.tables e below (s₁.setTop (mkF m 17 #[.val (.ref ca), .val (.int (0 : Int32)), .val (.ref ba), .val (.int (0 : Int32)), .val (.int (1 : Int32)), .val (.int (0 : Int32)), .val (.int ch)] [(.int ch)])) _
      refine XS.sipush X0.here hx rfl (hb hby d21_17) ?_
      show Steps p.tables e below (s₁.setTop (mkF m 20 #[.val (.ref ca), .val (.int (0 : Int32)), .val (.ref ba), .val (.int (0 : Int32)), .val (.int (1 : Int32)), .val (.int (0 : Int32)), .val (.int ch)] [(.int (255 : Int32)), (.int ch)])) _
      refine XS.icmpYes X0.here hx rfl (pc0 := 20) (pc' := 26) rfl (hb hby d21_20) rfl (flt hk).2.2.2 (by decide) (by decide) ?_
      show Steps p.tables e below (s₁.setTop (mkF m 26 #[.val (.ref ca), .val (.int (0 : Int32)), .val (.ref ba), .val (.int (0 : Int32)), .val (.int (1 : Int32)), .val (.int (0 : Int32)), .val (.int ch)] [])) _
      refine XS.aloadN X0.here hx rfl (hb hby d21_26) rfl rfl ?_
      show Steps p.tables e below (s₁.setTop (mkF m 27 #[.val (.ref ca), .val (.int (0 : Int32)), .val (.ref ba), .val (.int (0 : Int32)), .val (.int (1 : Int32)), .val (.int (0 : Int32)), .val (.int ch)] [(.ref ba)])) _
      refine XS.iloadN X0.here hx rfl (hb hby d21_27) rfl ?_
      show Steps p.tables e below (s₁.setTop (mkF m 28 #[.val (.ref ca), .val (.int (0 : Int32)), .val (.ref ba), .val (.int (0 : Int32)), .val (.int (1 : Int32)), .val (.int (0 : Int32)), .val (.int ch)] [(.int (0 : Int32)), (.ref ba)])) _
      refine XS.iload X0.here hx rfl (hb hby d21_28) rfl ?_
      show Steps p.tables e below (s₁.setTop (mkF m 30 #[.val (.ref ca), .val (.int (0 : Int32)), .val (.ref ba), .val (.int (0 : Int32)), .val (.int (1 : Int32)), .val (.int (0 : Int32)), .val (.int ch)] [(.int ch), (.int (0 : Int32)), (.ref ba)])) _
      refine XS.i2b X0.here hx rfl (hb hby d21_30) rfl ?_
      exact k)
  obtain ⟨T2, h2, X2, e2, W2, st2⟩ := stB X0 hx hZ e0 Ar_ba (j := (0 : Int32)) (own_in hbz (by decide) (by decide)) (g := (mkF m 31 #[.val (.ref ca), .val (.int (0 : Int32)), .val (.ref ba), .val (.int (0 : Int32)), .val (.int (1 : Int32)), .val (.int (0 : Int32)), .val (.int ch)] [(.int (ch.toInt8.toInt32)), (.int (0 : Int32)), (.ref ba)])) rfl rfl (hb hby d21_31)
  have J3 : ∀ t, Steps p.tables e below (T2.setTop (mkF m 32 #[.val (.ref ca), .val (.int (0 : Int32)), .val (.ref ba), .val (.int (0 : Int32)), .val (.int (1 : Int32)), .val (.int (0 : Int32)), .val (.int ch)] [])) t → Steps p.tables e below (s₁.setTop (entryFrame m #[(.ref ca), (.int (0 : Int32)), (.ref ba), (.int (0 : Int32)), (.int (1 : Int32))] 7)) t := fun t k => J1 t (st2 t k)
  have Z4 : n0 ≤ h2.size := Nat.le_trans Z0 (Keep.of_wr W2).1
  have KK5 : Keep h0 h2 [ba] := (Keep.refl h0 [ba]).wr W2 (Or.inl (List.mem_of_getElem? (i := 0) rfl))
  have N6 := Fr.snoc X2 N0 g_ba
  obtain ⟨cl2, hcl2⟩ : ∃ z, z = bcl.setSlot ((0 : Int32)).toNatClampNeg (.int (nar .byte (ch.toInt8.toInt32))) := ⟨_, rfl⟩
  have Aw2 : Arr Z h2 ba cl2 .byte := by rw [hcl2]; exact Ar_ba.same W2
  have J7 : ∀ t, Steps p.tables e below (T2.setTop (mkF m 46 #[.val (.ref ca), .val (.int ((0 : Int32) + (1 : Int32))), .val (.ref ba), .val (.int ((0 : Int32) + (1 : Int32))), .val (.int (1 : Int32)), .val (.int ((0 : Int32) + (1 : Int32))), .val (.int ch)] [(.int (1 : Int32))])) t → Steps p.tables e below (s₁.setTop (entryFrame m #[(.ref ca), (.int (0 : Int32)), (.ref ba), (.int (0 : Int32)), (.int (1 : Int32))] 7)) t := fun t k => J3 t (by
      show Steps p.tables e below (T2.setTop (mkF m 32 #[.val (.ref ca), .val (.int (0 : Int32)), .val (.ref ba), .val (.int (0 : Int32)), .val (.int (1 : Int32)), .val (.int (0 : Int32)), .val (.int ch)] [])) _
      refine XS.iinc X2.here hx rfl (hb hby d21_32) rfl (l' := #[.val (.ref ca), .val (.int ((0 : Int32) + (1 : Int32))), .val (.ref ba), .val (.int (0 : Int32)), .val (.int (1 : Int32)), .val (.int (0 : Int32)), .val (.int ch)]) rfl ?_
      show Steps p.tables e below (T2.setTop (mkF m 35 #[.val (.ref ca), .val (.int ((0 : Int32) + (1 : Int32))), .val (.ref ba), .val (.int (0 : Int32)), .val (.int (1 : Int32)), .val (.int (0 : Int32)), .val (.int ch)] [])) _
      refine XS.iinc X2.here hx rfl (hb hby d21_35) rfl (l' := #[.val (.ref ca), .val (.int ((0 : Int32) + (1 : Int32))), .val (.ref ba), .val (.int ((0 : Int32) + (1 : Int32))), .val (.int (1 : Int32)), .val (.int (0 : Int32)), .val (.int ch)]) rfl ?_
      show Steps p.tables e below (T2.setTop (mkF m 38 #[.val (.ref ca), .val (.int ((0 : Int32) + (1 : Int32))), .val (.ref ba), .val (.int ((0 : Int32) + (1 : Int32))), .val (.int (1 : Int32)), .val (.int (0 : Int32)), .val (.int ch)] [])) _
      refine XS.iinc X2.here hx rfl (hb hby d21_38) rfl (l' := #[.val (.ref ca), .val (.int ((0 : Int32) + (1 : Int32))), .val (.ref ba), .val (.int ((0 : Int32) + (1 : Int32))), .val (.int (1 : Int32)), .val (.int ((0 : Int32) + (1 : Int32))), .val (.int ch)]) rfl ?_
      show Steps p.tables e below (T2.setTop (mkF m 41 #[.val (.ref ca), .val (.int ((0 : Int32) + (1 : Int32))), .val (.ref ba), .val (.int ((0 : Int32) + (1 : Int32))), .val (.int (1 : Int32)), .val (.int ((0 : Int32) + (1 : Int32))), .val (.int ch)] [])) _
      refine XS.goto X2.here hx rfl (pc0 := 41) (pc' := 3) rfl (hb hby d21_41) (by decide) (by decide) ?_
      show Steps p.tables e below (T2.setTop (mkF m 3 #[.val (.ref ca), .val (.int ((0 : Int32) + (1 : Int32))), .val (.ref ba), .val (.int ((0 : Int32) + (1 : Int32))), .val (.int (1 : Int32)), .val (.int ((0 : Int32) + (1 : Int32))), .val (.int ch)] [])) _
      refine XS.iload X2.here hx rfl (hb hby d21_3) rfl ?_
      show Steps p.tables e below (T2.setTop (mkF m 5 #[.val (.ref ca), .val (.int ((0 : Int32) + (1 : Int32))), .val (.ref ba), .val (.int ((0 : Int32) + (1 : Int32))), .val (.int (1 : Int32)), .val (.int ((0 : Int32) + (1 : Int32))), .val (.int ch)] [(.int ((0 : Int32) + (1 : Int32)))])) _
      refine XS.iload X2.here hx rfl (hb hby d21_5) rfl ?_
      show Steps p.tables e below (T2.setTop (mkF m 7 #[.val (.ref ca), .val (.int ((0 : Int32) + (1 : Int32))), .val (.ref ba), .val (.int ((0 : Int32) + (1 : Int32))), .val (.int (1 : Int32)), .val (.int ((0 : Int32) + (1 : Int32))), .val (.int ch)] [(.int (1 : Int32)), (.int ((0 : Int32) + (1 : Int32)))])) _
      refine XS.icmpYes X2.here hx rfl (pc0 := 7) (pc' := 44) rfl (hb hby d21_7) rfl (flt (by decide)).2.1 (by decide) (by decide) ?_
      show Steps p.tables e below (T2.setTop (mkF m 44 #[.val (.ref ca), .val (.int ((0 : Int32) + (1 : Int32))), .val (.ref ba), .val (.int ((0 : Int32) + (1 : Int32))), .val (.int (1 : Int32)), .val (.int ((0 : Int32) + (1 : Int32))), .val (.int ch)] [])) _
      refine XS.iload X2.here hx rfl (hb hby d21_44) rfl ?_
      exact k)
  obtain ⟨fs, hr, hrun, hended, hW, hsame⟩ := X2.leave (v := some (.int (1 : Int32))) (fun h => by rw [Bd.returns] at h; cases h)
  refine ⟨_, _, J7 _ ?_, hrun, hended, _, _, rfl, ?_, ⟨_, rfl⟩, hW, hsame.mono (by decide) (by decide)⟩
  · show Steps p.tables e below (T2.setTop (mkF m 46 #[.val (.ref ca), .val (.int ((0 : Int32) + (1 : Int32))), .val (.ref ba), .val (.int ((0 : Int32) + (1 : Int32))), .val (.int (1 : Int32)), .val (.int ((0 : Int32) + (1 : Int32))), .val (.int ch)] [(.int (1 : Int32))])) _
    exact retI X2 hx Bd.returns (hb hby d21_46) hr
  · show Q21L Z ca ccl ch ba bcl h0 n0 _ T2.heap _
    rw [e2]
    exact ⟨cl2, rfl, N6, KK5, Aw2, (own_ssz hcl2 hbz), (own_same hcl2 (by decide) (by rw [hbz]; decide))⟩
theorem d20_0 : decode jdk_52_method_16_code 0 = .ok (.iload_n 2, 1) := by decide +kernel
theorem d20_1 : decode jdk_52_method_16_code 1 = .ok (.newarray .byte, 2) := by decide +kernel
theorem d20_3 : decode jdk_52_method_16_code 3 = .ok (.astore_n 3, 1) := by decide +kernel
theorem d20_4 : decode jdk_52_method_16_code 4 = .ok (.aload_n 0, 1) := by decide +kernel
theorem d20_5 : decode jdk_52_method_16_code 5 = .ok (.iload_n 1, 1) := by decide +kernel
theorem d20_6 : decode jdk_52_method_16_code 6 = .ok (.aload_n 3, 1) := by decide +kernel
theorem d20_7 : decode jdk_52_method_16_code 7 = .ok (.iconst 0, 1) := by decide +kernel
theorem d20_8 : decode jdk_52_method_16_code 8 = .ok (.iload_n 2, 1) := by decide +kernel
theorem d20_9 : decode jdk_52_method_16_code 9 = .ok (.invokestatic 115, 3) := by decide +kernel
theorem pd_13 : parseMethodDescriptor "([CI[BII)I" = some ⟨[(.array .char), .int, (.array .byte), .int, .int], some .int⟩ := by decide +kernel
theorem d20_12 : decode jdk_52_method_16_code 12 = .ok (.istore 4, 2) := by decide +kernel
theorem d20_14 : decode jdk_52_method_16_code 14 = .ok (.iload 4, 2) := by decide +kernel
theorem d20_16 : decode jdk_52_method_16_code 16 = .ok (.iload_n 2, 1) := by decide +kernel
theorem d20_17 : decode jdk_52_method_16_code 17 = .ok (.if_icmp .eq 40, 3) := by decide +kernel
theorem d20_57 : decode jdk_52_method_16_code 57 = .ok (.aload_n 3, 1) := by decide +kernel
theorem d20_58 : decode jdk_52_method_16_code 58 = .ok (.areturn, 1) := by decide +kernel
theorem pn_20 : plainName "java/lang/StringUTF16" = true := by first | (simp [plainName, overriddenIn]; done) | decide +kernel
theorem ef_20_xxx (m : MethodId) (x0 : Addr) (x1 : Int32) (x2 : Int32) : entryFrame m #[(.ref x0), (.int x1), (.int x2)] 6 = mkF m 0 #[.val (.ref x0), .val (.int x1), .val (.int x2), .unset, .unset, .unset] [] := by first | (simp [entryFrame, mkF, argsToLocals, Value.category]; done) | rfl
def Q20L (Z : State) (ca : Addr) (ccl : Cell) (ch : Int32) (h0 : Heap) (n0 : Nat) (v : Option Value) (h : Heap) (L : List Loc) : Prop := ∃ (ba : Addr) (bcl : Cell), v = some (.ref ba) ∧ Fr n0 L ∧ Keep h0 h [] ∧ (Arr Z h ba bcl .byte) ∧ (bcl.slots.size = 1) ∧ (bcl.slots[0]? = some (.int (nar .byte (ch.toInt8.toInt32)))) ∧ (n0 ≤ ba) ∧ (h0.size ≤ ba)
set_option maxRecDepth 65536 in
set_option maxHeartbeats 40000000 in
theorem rm20L (l : Launch) (Z : State) (a0 : Array Value) (hw : ∀ d ∈ tables_1, d.before a0 Z = true) (ws : List Jvm.Cond) (ca : Addr) (ccl : Cell) (ch : Int32) (h0 : Heap) (n0 : Nat) (Z0 : n0 ≤ h0.size) (Ar_ca : Arr Z h0 ca ccl .char) (hcz : ccl.slots.size = 256) (hc0 : ccl.slots[0]? = some (.int ch)) (hk : ¬ (255 : Int32) < ch) :
    MetFree l (⟨"java/lang/StringUTF16", "compress", "([CII)[B"⟩ : MethodName) (head1 (Jvm.Cond.code (⟨"java/lang/StringUTF16", "compress", "([CII)[B"⟩ : MethodName) jdk_52_method_16_code 6 (some (.array .byte)) :: ws) ({ frames := 1, cells := 1, slots := 1, locals := 18 } : Room)) (fun a U => a = #[(.ref ca), (.int (0 : Int32)), (.int (1 : Int32))] ∧ Z.Warmed39 U.vm ∧ U.heap = h0) (fun _ _ _ _ _ => True) (fun _ U o U' => ∃ v L, o = .returned v ∧ Q20L Z ca ccl ch h0 n0 v U'.heap L ∧ FrameEnd U o U' L ({ frames := 1, cells := 1, slots := 1, locals := 18 } : Room).cells ({ frames := 1, cells := 1, slots := 1, locals := 18 } : Room).slots) := by
  refine MetFree.of_bodySF (plainFor_of_name pn_20) hisR ?_
  intro p e s m args below meth c s₁ Bd hml0 hP hK
  obtain ⟨rfl, hZ, hh⟩ := hP
  have hx := Bd.exec
  have hby := Bd.bytes
  have hml : c.maxLocals = 6 := hml0
  have hown : s.vm.findClass "java/lang/StringUTF16" = some m.cls := findClass_of_methodNamed Bd.named
  have hnm := (name_of_methodNamed Bd.named Bd.method).1
  have X0 : Stand p l e ({ frames := 1, cells := 1, slots := 1, locals := 18 } : Room) s m #[(.ref ca), (.int (0 : Int32)), (.int (1 : Int32))] below meth c s₁ [] 0 0 := Stand.of_body Bd
  have e0 : s₁.heap = h0 := by rw [← hh, Bd.state]; rfl
  have N0 := Fr.nil n0
  have pre0 : ∀ t, Steps p.tables e below (s₁.setTop (mkF m 0 #[.val (.ref ca), .val (.int (0 : Int32)), .val (.int (1 : Int32)), .unset, .unset, .unset] [])) t → Steps p.tables e below (s₁.setTop (entryFrame m #[(.ref ca), (.int (0 : Int32)), (.int (1 : Int32))] 6)) t := fun t k => castTop (ef_20_xxx m ca (0 : Int32) (1 : Int32)) k
  have J1 : ∀ t, Steps p.tables e below (s₁.setTop (mkF m 1 #[.val (.ref ca), .val (.int (0 : Int32)), .val (.int (1 : Int32)), .unset, .unset, .unset] [(.int (1 : Int32))])) t → Steps p.tables e below (s₁.setTop (entryFrame m #[(.ref ca), (.int (0 : Int32)), (.int (1 : Int32))] 6)) t := fun t k => pre0 t (by
      show Steps p.tables e below (s₁.setTop (mkF m 0 #[.val (.ref ca), .val (.int (0 : Int32)), .val (.int (1 : Int32)), .unset, .unset, .unset] [])) _
      refine XS.iloadN X0.here hx rfl (hb hby d20_0) rfl ?_
      exact k)
  obtain ⟨T2, h2, k2, X2, e2, E2, A2, st2⟩ := newP X0 hx hZ (hw _ (List.mem_of_getElem? (i := 6) rfl)) e0 (g := (mkF m 1 #[.val (.ref ca), .val (.int (0 : Int32)), .val (.int (1 : Int32)), .unset, .unset, .unset] [(.int (1 : Int32))])) rfl (hb hby d20_1) rfl (by decide) (cap := 1) (by decide) (by decide) (by decide) (by decide)
  obtain ⟨b2, g2⟩ : ∃ z, z = h0.size := ⟨_, rfl⟩
  rw [← g2] at A2 st2
  obtain ⟨cl2, hcl2⟩ : ∃ z, z = newA k2 .byte (1 : Int32) := ⟨_, rfl⟩
  have Aw2 : Arr Z h2 b2 cl2 .byte := by rw [hcl2]; exact A2
  have J3 : ∀ t, Steps p.tables e below (T2.setTop (mkF m 3 #[.val (.ref ca), .val (.int (0 : Int32)), .val (.int (1 : Int32)), .unset, .unset, .unset] [(.ref b2)])) t → Steps p.tables e below (s₁.setTop (entryFrame m #[(.ref ca), (.int (0 : Int32)), (.int (1 : Int32))] 6)) t := fun t k => J1 t (st2 t k)
  have ne4 : ca ≠ b2 := Nat.ne_of_lt (Nat.lt_of_lt_of_le Ar_ca.lt (Nat.le_of_eq g2.symm))
  have ge5 : n0 ≤ b2 := Nat.le_trans Z0 (Nat.le_of_eq g2.symm)
  have sz6 : h0.size ≤ b2 := Nat.le_trans (Keep.refl h0 []).1 (Nat.le_of_eq g2.symm)
  have Z7 : n0 ≤ h2.size := Nat.le_trans Z0 E2.1
  have KK8 : Keep h0 h2 [] := (Keep.refl h0 []).ext E2
  have hS2 : cl2.slots.size = 1 := by rw [hcl2, sz_new]; decide
  have J9 : ∀ t, Steps p.tables e below (T2.setTop (mkF m 9 #[.val (.ref ca), .val (.int (0 : Int32)), .val (.int (1 : Int32)), .val (.ref b2), .unset, .unset] [(.int (1 : Int32)), (.int (0 : Int32)), (.ref b2), (.int (0 : Int32)), (.ref ca)])) t → Steps p.tables e below (s₁.setTop (entryFrame m #[(.ref ca), (.int (0 : Int32)), (.int (1 : Int32))] 6)) t := fun t k => J3 t (by
      show Steps p.tables e below (T2.setTop (mkF m 3 #[.val (.ref ca), .val (.int (0 : Int32)), .val (.int (1 : Int32)), .unset, .unset, .unset] [(.ref b2)])) _
      refine XS.astoreN X2.here hx rfl (hb hby d20_3) rfl rfl (l' := #[.val (.ref ca), .val (.int (0 : Int32)), .val (.int (1 : Int32)), .val (.ref b2), .unset, .unset]) rfl ?_
      show Steps p.tables e below (T2.setTop (mkF m 4 #[.val (.ref ca), .val (.int (0 : Int32)), .val (.int (1 : Int32)), .val (.ref b2), .unset, .unset] [])) _
      refine XS.aloadN X2.here hx rfl (hb hby d20_4) rfl rfl ?_
      show Steps p.tables e below (T2.setTop (mkF m 5 #[.val (.ref ca), .val (.int (0 : Int32)), .val (.int (1 : Int32)), .val (.ref b2), .unset, .unset] [(.ref ca)])) _
      refine XS.iloadN X2.here hx rfl (hb hby d20_5) rfl ?_
      show Steps p.tables e below (T2.setTop (mkF m 6 #[.val (.ref ca), .val (.int (0 : Int32)), .val (.int (1 : Int32)), .val (.ref b2), .unset, .unset] [(.int (0 : Int32)), (.ref ca)])) _
      refine XS.aloadN X2.here hx rfl (hb hby d20_6) rfl rfl ?_
      show Steps p.tables e below (T2.setTop (mkF m 7 #[.val (.ref ca), .val (.int (0 : Int32)), .val (.int (1 : Int32)), .val (.ref b2), .unset, .unset] [(.ref b2), (.int (0 : Int32)), (.ref ca)])) _
      refine XS.iconst X2.here hx rfl (hb hby d20_7) ?_
      show Steps p.tables e below (T2.setTop (mkF m 8 #[.val (.ref ca), .val (.int (0 : Int32)), .val (.int (1 : Int32)), .val (.ref b2), .unset, .unset] [(.int (0 : Int32)), (.ref b2), (.int (0 : Int32)), (.ref ca)])) _
      refine XS.iloadN X2.here hx rfl (hb hby d20_8) rfl ?_
      exact k)
  have f10 := Ar_ca.ext E2
  obtain ⟨_, _, ⟨T11, L11, k11, n11⟩, -, X11, ⟨Lc11, hQ11, l11, y11, z11⟩, st11⟩ := Jvm.LawKit.callS X2 hx (y := (⟨"java/lang/StringUTF16", "compress", "([CI[BII)I"⟩ : MethodName)) hown (mvT hZ (hw _ (List.mem_of_getElem? (i := 137) rfl))) (mvT hZ (hw _ (List.mem_of_getElem? (i := 138) rfl))) (mvT hZ (hw _ (List.mem_of_getElem? (i := 135) rfl))) (mvT hZ (hw _ (List.mem_of_getElem? (i := 139) rfl))) (by decide) (backOf (W := 0) (rm21L l Z a0 hw [] ca ccl ch b2 cl2 h2 n0 Z7 f10 (by assumption) (by assumption) Aw2 hS2 ge5 ne4 (by assumption)) hZ (hw _ (List.mem_of_getElem? (i := 139) rfl)) (hw _ (List.mem_of_getElem? (i := 135) rfl)) (by decide) (by decide)) (g := (mkF m 9 #[.val (.ref ca), .val (.int (0 : Int32)), .val (.int (1 : Int32)), .val (.ref b2), .unset, .unset] [(.int (1 : Int32)), (.int (0 : Int32)), (.ref b2), (.int (0 : Int32)), (.ref ca)])) rfl (by rw [hml]; rfl) (argsL := [(.ref ca), (.int (0 : Int32)), (.ref b2), (.int (0 : Int32)), (.int (1 : Int32))]) (rest := []) (lenOf pd_13 rfl) rfl (by show 2 * 0 + _ ≤ _; exact Nat.le_of_eq rfl) (hb hby d20_9) (fun _ _ => ⟨rfl, e2, (by decide : 1 + 0 ≤ _), (by decide : 1 + 0 ≤ _)⟩)
  dsimp only [Pt.U, Pt.locs, Pt.cells, Pt.slots] at X11 l11 y11 z11 st11 hQ11
  subst y11 z11
  obtain ⟨bcl'_11, rfl, Nq11, K11, p11_1, p11_2, p11_3⟩ := hQ11
  have N12 : Fr n0 L11 := by rw [l11]; exact Fr.app N0 Nq11
  have J13 : ∀ t, Steps p.tables e below (T11.setTop (mkF m 12 #[.val (.ref ca), .val (.int (0 : Int32)), .val (.int (1 : Int32)), .val (.ref b2), .unset, .unset] [(.int (1 : Int32))])) t → Steps p.tables e below (s₁.setTop (entryFrame m #[(.ref ca), (.int (0 : Int32)), (.int (1 : Int32))] 6)) t := fun t k => J9 t (st11 t k)
  have Z14 : n0 ≤ T11.heap.size := Nat.le_trans Z7 K11.1
  have KK15 : Keep h0 T11.heap [] := KK8.trans K11 (allS (Or.inr sz6) all0)
  have J16 : ∀ t, Steps p.tables e below (T11.setTop (mkF m 58 #[.val (.ref ca), .val (.int (0 : Int32)), .val (.int (1 : Int32)), .val (.ref b2), .val (.int (1 : Int32)), .unset] [(.ref b2)])) t → Steps p.tables e below (s₁.setTop (entryFrame m #[(.ref ca), (.int (0 : Int32)), (.int (1 : Int32))] 6)) t := fun t k => J13 t (by
      show Steps p.tables e below (T11.setTop (mkF m 12 #[.val (.ref ca), .val (.int (0 : Int32)), .val (.int (1 : Int32)), .val (.ref b2), .unset, .unset] [(.int (1 : Int32))])) _
      refine XS.istore X11.here hx rfl (hb hby d20_12) rfl (l' := #[.val (.ref ca), .val (.int (0 : Int32)), .val (.int (1 : Int32)), .val (.ref b2), .val (.int (1 : Int32)), .unset]) rfl ?_
      show Steps p.tables e below (T11.setTop (mkF m 14 #[.val (.ref ca), .val (.int (0 : Int32)), .val (.int (1 : Int32)), .val (.ref b2), .val (.int (1 : Int32)), .unset] [])) _
      refine XS.iload X11.here hx rfl (hb hby d20_14) rfl ?_
      show Steps p.tables e below (T11.setTop (mkF m 16 #[.val (.ref ca), .val (.int (0 : Int32)), .val (.int (1 : Int32)), .val (.ref b2), .val (.int (1 : Int32)), .unset] [(.int (1 : Int32))])) _
      refine XS.iloadN X11.here hx rfl (hb hby d20_16) rfl ?_
      show Steps p.tables e below (T11.setTop (mkF m 17 #[.val (.ref ca), .val (.int (0 : Int32)), .val (.int (1 : Int32)), .val (.ref b2), .val (.int (1 : Int32)), .unset] [(.int (1 : Int32)), (.int (1 : Int32))])) _
      refine XS.icmpYes X11.here hx rfl (pc0 := 17) (pc' := 57) rfl (hb hby d20_17) rfl (teq (by decide)).1 (by decide) (by decide) ?_
      show Steps p.tables e below (T11.setTop (mkF m 57 #[.val (.ref ca), .val (.int (0 : Int32)), .val (.int (1 : Int32)), .val (.ref b2), .val (.int (1 : Int32)), .unset] [])) _
      refine XS.aloadN X11.here hx rfl (hb hby d20_57) rfl rfl ?_
      exact k)
  obtain ⟨fs, hr, hrun, hended, hW, hsame⟩ := X11.leave (v := some (.ref b2)) (fun h => by rw [Bd.returns] at h; cases h)
  refine ⟨_, _, J16 _ ?_, hrun, hended, _, _, rfl, ?_, ⟨_, rfl⟩, hW, hsame.mono (by decide) (by decide)⟩
  · show Steps p.tables e below (T11.setTop (mkF m 58 #[.val (.ref ca), .val (.int (0 : Int32)), .val (.int (1 : Int32)), .val (.ref b2), .val (.int (1 : Int32)), .unset] [(.ref b2)])) _
    jvm_step X11.here [X11.here.top, hx, (hb hby d20_58), X11.method', Bd.returns, Value.isRef, FieldType.isReference]
    first | (intro acts; rw [hr _ acts rfl rfl rfl]) | rw [hr _ _ rfl rfl rfl]
    exact Steps.refl _
  · show Q20L Z ca ccl ch h0 n0 _ T11.heap _
    exact ⟨b2, bcl'_11, rfl, N12, KK15, p11_1, p11_2, p11_3, ge5, sz6⟩
theorem d22_0 : decode jdk_52_method_15_code 0 = .ok (.iload_n 1, 1) := by decide +kernel
theorem d22_1 : decode jdk_52_method_15_code 1 = .ok (.aload_n 0, 1) := by decide +kernel
theorem d22_2 : decode jdk_52_method_15_code 2 = .ok (.arraylength, 1) := by decide +kernel
theorem d22_3 : decode jdk_52_method_15_code 3 = .ok (.isub, 1) := by decide +kernel
theorem d22_4 : decode jdk_52_method_15_code 4 = .ok (.bipush 31, 2) := by decide +kernel
theorem d22_6 : decode jdk_52_method_15_code 6 = .ok (.iushr, 1) := by decide +kernel
theorem d22_7 : decode jdk_52_method_15_code 7 = .ok (.i2b, 1) := by decide +kernel
theorem d22_8 : decode jdk_52_method_15_code 8 = .ok (.ireturn, 1) := by decide +kernel
theorem pn_22 : plainName "java/lang/StringUTF16" = true := by first | (simp [plainName, overriddenIn]; done) | decide +kernel
theorem ef_22_xx (m : MethodId) (x0 : Addr) (x1 : Int32) : entryFrame m #[(.ref x0), (.int x1)] 2 = mkF m 0 #[.val (.ref x0), .val (.int x1)] [] := by first | (simp [entryFrame, mkF, argsToLocals, Value.category]; done) | rfl
def Q22L (Z : State) (ba : Addr) (bcl : Cell) (h0 : Heap) (n0 : Nat) (v : Option Value) (h : Heap) (L : List Loc) : Prop := v = some (.int (0 : Int32)) ∧ Fr n0 L ∧ h = h0
set_option maxRecDepth 65536 in
set_option maxHeartbeats 40000000 in
theorem rm22L (l : Launch) (Z : State) (a0 : Array Value) (hw : ∀ d ∈ tables_1, d.before a0 Z = true) (ws : List Jvm.Cond) (ba : Addr) (bcl : Cell) (h0 : Heap) (n0 : Nat) (Z0 : n0 ≤ h0.size) (Ar_ba : Arr Z h0 ba bcl .byte) (hbz : bcl.slots.size = 1) :
    MetFree l (⟨"java/lang/StringUTF16", "coderFromArrayLen", "([BI)B"⟩ : MethodName) (head1 (Jvm.Cond.code (⟨"java/lang/StringUTF16", "coderFromArrayLen", "([BI)B"⟩ : MethodName) jdk_52_method_15_code 2 (some .byte) :: ws) ({ frames := 0, cells := 0, slots := 0, locals := 0 } : Room)) (fun a U => a = #[(.ref ba), (.int (1 : Int32))] ∧ Z.Warmed39 U.vm ∧ U.heap = h0) (fun _ _ _ _ _ => True) (fun _ U o U' => ∃ v L, o = .returned v ∧ Q22L Z ba bcl h0 n0 v U'.heap L ∧ FrameEnd U o U' L ({ frames := 0, cells := 0, slots := 0, locals := 0 } : Room).cells ({ frames := 0, cells := 0, slots := 0, locals := 0 } : Room).slots) := by
  refine MetFree.of_bodySF (plainFor_of_name pn_22) hisR ?_
  intro p e s m args below meth c s₁ Bd hml0 hP hK
  obtain ⟨rfl, hZ, hh⟩ := hP
  have hx := Bd.exec
  have hby := Bd.bytes
  have hml : c.maxLocals = 2 := hml0
  have hown : s.vm.findClass "java/lang/StringUTF16" = some m.cls := findClass_of_methodNamed Bd.named
  have hnm := (name_of_methodNamed Bd.named Bd.method).1
  have X0 : Stand p l e ({ frames := 0, cells := 0, slots := 0, locals := 0 } : Room) s m #[(.ref ba), (.int (1 : Int32))] below meth c s₁ [] 0 0 := Stand.of_body Bd
  have e0 : s₁.heap = h0 := by rw [← hh, Bd.state]; rfl
  have N0 := Fr.nil n0
  have pre0 : ∀ t, Steps p.tables e below (s₁.setTop (mkF m 0 #[.val (.ref ba), .val (.int (1 : Int32))] [])) t → Steps p.tables e below (s₁.setTop (entryFrame m #[(.ref ba), (.int (1 : Int32))] 2)) t := fun t k => castTop (ef_22_xx m ba (1 : Int32)) k
  have J1 : ∀ t, Steps p.tables e below (s₁.setTop (mkF m 8 #[.val (.ref ba), .val (.int (1 : Int32))] [(.int (((((1 : Int32) - (1 : Int32)).toUInt32 >>> ((31 : Int32) &&& 31).toUInt32).toInt32).toInt8.toInt32))])) t → Steps p.tables e below (s₁.setTop (entryFrame m #[(.ref ba), (.int (1 : Int32))] 2)) t := fun t k => pre0 t (by
      show Steps p.tables e below (s₁.setTop (mkF m 0 #[.val (.ref ba), .val (.int (1 : Int32))] [])) _
      refine XS.iloadN X0.here hx rfl (hb hby d22_0) rfl ?_
      show Steps p.tables e below (s₁.setTop (mkF m 1 #[.val (.ref ba), .val (.int (1 : Int32))] [(.int (1 : Int32))])) _
      refine XS.aloadN X0.here hx rfl (hb hby d22_1) rfl rfl ?_
      show Steps p.tables e below (s₁.setTop (mkF m 2 #[.val (.ref ba), .val (.int (1 : Int32))] [(.ref ba), (.int (1 : Int32))])) _
      refine X0.arraylength hx (cell := bcl) (by rw [e0]; exact Ar_ba.1) (State.isArrayOf_alike hZ.alike Ar_ba.2.1) (g := (mkF m 2 #[.val (.ref ba), .val (.int (1 : Int32))] [(.ref ba), (.int (1 : Int32))])) rfl (rest := [(.int (1 : Int32))]) rfl (hb hby d22_2) _ ?_
      rw [(show bcl.slots.size.toInt32 = (1 : Int32) from by rw [hbz]; rfl)]
      show Steps p.tables e below (s₁.setTop (mkF m 3 #[.val (.ref ba), .val (.int (1 : Int32))] [(.int (1 : Int32)), (.int (1 : Int32))])) _
      refine XS.isub X0.here hx rfl (hb hby d22_3) rfl ?_
      show Steps p.tables e below (s₁.setTop (mkF m 4 #[.val (.ref ba), .val (.int (1 : Int32))] [(.int ((1 : Int32) - (1 : Int32)))])) _
      refine XS.bipush X0.here hx rfl (hb hby d22_4) ?_
      show Steps p.tables e below (s₁.setTop (mkF m 6 #[.val (.ref ba), .val (.int (1 : Int32))] [(.int (31 : Int32)), (.int ((1 : Int32) - (1 : Int32)))])) _
      refine XS.iushr X0.here hx rfl (hb hby d22_6) rfl ?_
      show Steps p.tables e below (s₁.setTop (mkF m 7 #[.val (.ref ba), .val (.int (1 : Int32))] [(.int ((((1 : Int32) - (1 : Int32)).toUInt32 >>> ((31 : Int32) &&& 31).toUInt32).toInt32))])) _
      refine XS.i2b X0.here hx rfl (hb hby d22_7) rfl ?_
      exact k)
  have J2 : ∀ t, Steps p.tables e below (s₁.setTop (mkF m 8 #[.val (.ref ba), .val (.int (1 : Int32))] [(.int (0 : Int32))])) t → Steps p.tables e below (s₁.setTop (entryFrame m #[(.ref ba), (.int (1 : Int32))] 2)) t := fun t k => J1 t (by rw [(by decide : (((((1 : Int32) - (1 : Int32)).toUInt32 >>> ((31 : Int32) &&& 31).toUInt32).toInt32).toInt8.toInt32) = (0 : Int32))]; exact k)
  obtain ⟨fs, hr, hrun, hended, hW, hsame⟩ := X0.leave (v := some (.int (0 : Int32))) (fun h => by rw [Bd.returns] at h; cases h)
  refine ⟨_, _, J2 _ ?_, hrun, hended, _, _, rfl, ?_, ⟨_, rfl⟩, hW, hsame.mono (by decide) (by decide)⟩
  · show Steps p.tables e below (s₁.setTop (mkF m 8 #[.val (.ref ba), .val (.int (1 : Int32))] [(.int (0 : Int32))])) _
    exact retN X0 hx (t := .byte) Bd.returns (by simp) (hb hby d22_8) hr
  · show Q22L Z ba bcl h0 n0 _ s₁.heap _
    rw [e0]
    exact ⟨rfl, N0, rfl⟩
theorem d19_0 : decode jdk_42_method_149_code 0 = .ok (.aload_n 0, 1) := by decide +kernel
theorem d19_1 : decode jdk_42_method_149_code 1 = .ok (.invokespecial 1, 3) := by decide +kernel
theorem d19_4 : decode jdk_42_method_149_code 4 = .ok (.iload_n 3, 1) := by decide +kernel
theorem d19_5 : decode jdk_42_method_149_code 5 = .ok (.ifCond .ne 22, 3) := by decide +kernel
theorem d19_27 : decode jdk_42_method_149_code 27 = .ok (.getstatic 38, 3) := by decide +kernel
theorem d19_30 : decode jdk_42_method_149_code 30 = .ok (.ifCond .eq 28, 3) := by decide +kernel
theorem d19_33 : decode jdk_42_method_149_code 33 = .ok (.aload_n 1, 1) := by decide +kernel
theorem d19_34 : decode jdk_42_method_149_code 34 = .ok (.iload_n 2, 1) := by decide +kernel
theorem d19_35 : decode jdk_42_method_149_code 35 = .ok (.iload_n 3, 1) := by decide +kernel
theorem d19_36 : decode jdk_42_method_149_code 36 = .ok (.invokestatic 177, 3) := by decide +kernel
theorem pd_14 : parseMethodDescriptor "([CII)[B" = some ⟨[(.array .char), .int, .int], some (.array .byte)⟩ := by decide +kernel
theorem d19_39 : decode jdk_42_method_149_code 39 = .ok (.astore 5, 2) := by decide +kernel
theorem d19_41 : decode jdk_42_method_149_code 41 = .ok (.aload_n 0, 1) := by decide +kernel
theorem d19_42 : decode jdk_42_method_149_code 42 = .ok (.aload 5, 2) := by decide +kernel
theorem d19_44 : decode jdk_42_method_149_code 44 = .ok (.iload_n 3, 1) := by decide +kernel
theorem d19_45 : decode jdk_42_method_149_code 45 = .ok (.invokestatic 47, 3) := by decide +kernel
theorem pd_15 : parseMethodDescriptor "([BI)B" = some ⟨[(.array .byte), .int], some .byte⟩ := by decide +kernel
theorem d19_48 : decode jdk_42_method_149_code 48 = .ok (.putfield 15, 3) := by decide +kernel
theorem d19_51 : decode jdk_42_method_149_code 51 = .ok (.aload_n 0, 1) := by decide +kernel
theorem d19_52 : decode jdk_42_method_149_code 52 = .ok (.aload 5, 2) := by decide +kernel
theorem d19_54 : decode jdk_42_method_149_code 54 = .ok (.putfield 9, 3) := by decide +kernel
theorem d19_57 : decode jdk_42_method_149_code 57 = .ok (.return_, 1) := by decide +kernel
theorem pn_19 : plainName "java/lang/String" = true := by first | (simp [plainName, overriddenIn]; done) | decide +kernel
theorem ef_19_xxxxn (m : MethodId) (x0 : Addr) (x1 : Addr) (x2 : Int32) (x3 : Int32) : entryFrame m #[(.ref x0), (.ref x1), (.int x2), (.int x3), .null] 6 = mkF m 0 #[.val (.ref x0), .val (.ref x1), .val (.int x2), .val (.int x3), .val .null, .unset] [] := by first | (simp [entryFrame, mkF, argsToLocals, Value.category]; done) | rfl
def Q19L (Z : State) (a1 : Addr) (ca : Addr) (ccl : Cell) (ch : Int32) (u1 : Value) (u2 : Value) (cs : Int32) (h0 : Heap) (n0 : Nat) (v : Option Value) (h : Heap) (L : List Loc) : Prop := ∃ (ba : Addr) (bcl : Cell), v = none ∧ Fr n0 L ∧ Keep h0 h [a1] ∧ (Exa Z h a1 "java/lang/String") ∧ (Fld Z h a1 "java/lang/String" "value" "[B" (.ref ba)) ∧ (Fld Z h a1 "java/lang/String" "coder" "B" (.int (0 : Int32))) ∧ (Arr Z h ba bcl .byte) ∧ (bcl.slots.size = 1) ∧ (bcl.slots[0]? = some (.int (nar .byte (ch.toInt8.toInt32)))) ∧ (h0.size ≤ ba)
set_option maxRecDepth 65536 in
set_option maxHeartbeats 40000000 in
theorem rm19L (l : Launch) (Z : State) (a0 : Array Value) (hw : ∀ d ∈ tables_1, d.before a0 Z = true) (ws : List Jvm.Cond) (a1 : Addr) (ca : Addr) (ccl : Cell) (ch : Int32) (u1 : Value) (u2 : Value) (cs : Int32) (h0 : Heap) (n0 : Nat) (Z0 : n0 ≤ h0.size) (E_a1 : Exa Z h0 a1 "java/lang/String") (g_a1 : n0 ≤ a1) (F_value_a1 : Fld Z h0 a1 "java/lang/String" "value" "[B" u1) (F_coder_a1 : Fld Z h0 a1 "java/lang/String" "coder" "B" u2) (Ar_ca : Arr Z h0 ca ccl .char) (hcz : ccl.slots.size = 256) (hc0 : ccl.slots[0]? = some (.int ch)) (hk : ¬ (255 : Int32) < ch) (O : Old Z n0 h0) (Zs_COMPACT_STRINGS : Sta Z Z.heap "java/lang/String" "COMPACT_STRINGS" "Z" (.int cs)) (hcs : ¬ cs = (0 : Int32)) (ne_a1_ca : a1 ≠ ca) :
    MetFree l (⟨"java/lang/String", "<init>", "([CIILjava/lang/Void;)V"⟩ : MethodName) (head1 (Jvm.Cond.code (⟨"java/lang/String", "<init>", "([CIILjava/lang/Void;)V"⟩ : MethodName) jdk_42_method_149_code 6 none :: ws) ({ frames := 2, cells := 1, slots := 1, locals := 35 } : Room)) (fun a U => a = #[(.ref a1), (.ref ca), (.int (0 : Int32)), (.int (1 : Int32)), .null] ∧ Z.Warmed39 U.vm ∧ U.heap = h0) (fun _ _ _ _ _ => True) (fun _ U o U' => ∃ v L, o = .returned v ∧ Q19L Z a1 ca ccl ch u1 u2 cs h0 n0 v U'.heap L ∧ FrameEnd U o U' L ({ frames := 2, cells := 1, slots := 1, locals := 35 } : Room).cells ({ frames := 2, cells := 1, slots := 1, locals := 35 } : Room).slots) := by
  refine MetFree.of_bodySF (plainFor_of_name pn_19) hisR ?_
  intro p e s m args below meth c s₁ Bd hml0 hP hK
  obtain ⟨rfl, hZ, hh⟩ := hP
  have hx := Bd.exec
  have hby := Bd.bytes
  have hml : c.maxLocals = 6 := hml0
  have hown : s.vm.findClass "java/lang/String" = some m.cls := findClass_of_methodNamed Bd.named
  have hnm := (name_of_methodNamed Bd.named Bd.method).1
  have X0 : Stand p l e ({ frames := 2, cells := 1, slots := 1, locals := 35 } : Room) s m #[(.ref a1), (.ref ca), (.int (0 : Int32)), (.int (1 : Int32)), .null] below meth c s₁ [] 0 0 := Stand.of_body Bd
  have e0 : s₁.heap = h0 := by rw [← hh, Bd.state]; rfl
  have N0 := Fr.nil n0
  have pre0 : ∀ t, Steps p.tables e below (s₁.setTop (mkF m 0 #[.val (.ref a1), .val (.ref ca), .val (.int (0 : Int32)), .val (.int (1 : Int32)), .val .null, .unset] [])) t → Steps p.tables e below (s₁.setTop (entryFrame m #[(.ref a1), (.ref ca), (.int (0 : Int32)), (.int (1 : Int32)), .null] 6)) t := fun t k => castTop (ef_19_xxxxn m a1 ca (0 : Int32) (1 : Int32)) k
  have J1 : ∀ t, Steps p.tables e below (s₁.setTop (mkF m 1 #[.val (.ref a1), .val (.ref ca), .val (.int (0 : Int32)), .val (.int (1 : Int32)), .val .null, .unset] [(.ref a1)])) t → Steps p.tables e below (s₁.setTop (entryFrame m #[(.ref a1), (.ref ca), (.int (0 : Int32)), (.int (1 : Int32)), .null] 6)) t := fun t k => pre0 t (by
      show Steps p.tables e below (s₁.setTop (mkF m 0 #[.val (.ref a1), .val (.ref ca), .val (.int (0 : Int32)), .val (.int (1 : Int32)), .val .null, .unset] [])) _
      refine XS.aloadN X0.here hx rfl (hb hby d19_0) rfl rfl ?_
      exact k)
  obtain ⟨T2, X2, e2, st2⟩ := initO X0 hx hZ hown (hw _ (List.mem_of_getElem? (i := 131) rfl)) (hw _ (List.mem_of_getElem? (i := 26) rfl)) (hw _ (List.mem_of_getElem? (i := 27) rfl)) e0 (g := (mkF m 1 #[.val (.ref a1), .val (.ref ca), .val (.int (0 : Int32)), .val (.int (1 : Int32)), .val .null, .unset] [(.ref a1)])) rfl (by rw [hml]; rfl) rfl (hb hby d19_1) (by decide) (W := 0) (by show 2 * 0 + _ ≤ _; exact Nat.le_of_eq rfl) (by decide)
  have J3 : ∀ t, Steps p.tables e below (T2.setTop (mkF m 4 #[.val (.ref a1), .val (.ref ca), .val (.int (0 : Int32)), .val (.int (1 : Int32)), .val .null, .unset] [])) t → Steps p.tables e below (s₁.setTop (entryFrame m #[(.ref a1), (.ref ca), (.int (0 : Int32)), (.int (1 : Int32)), .null] 6)) t := fun t k => J1 t (st2 t k)
  have J4 : ∀ t, Steps p.tables e below (T2.setTop (mkF m 27 #[.val (.ref a1), .val (.ref ca), .val (.int (0 : Int32)), .val (.int (1 : Int32)), .val .null, .unset] [])) t → Steps p.tables e below (s₁.setTop (entryFrame m #[(.ref a1), (.ref ca), (.int (0 : Int32)), (.int (1 : Int32)), .null] 6)) t := fun t k => J3 t (by
      show Steps p.tables e below (T2.setTop (mkF m 4 #[.val (.ref a1), .val (.ref ca), .val (.int (0 : Int32)), .val (.int (1 : Int32)), .val .null, .unset] [])) _
      refine XS.iloadN X2.here hx rfl (hb hby d19_4) rfl ?_
      show Steps p.tables e below (T2.setTop (mkF m 5 #[.val (.ref a1), .val (.ref ca), .val (.int (0 : Int32)), .val (.int (1 : Int32)), .val .null, .unset] [(.int (1 : Int32))])) _
      refine XS.ifYes X2.here hx rfl (pc0 := 5) (pc' := 27) rfl (hb hby d19_5) rfl ((if0 _ _).trans (feq (by decide)).2) (by decide) (by decide) ?_
      exact k)
  obtain ⟨T5, X5, e5, st5⟩ := getS2 X2 hx hZ hown (host := "") (Or.inl (hw _ (List.mem_of_getElem? (i := 132) rfl))) Via.refl e2 (Zs_COMPACT_STRINGS.ext O.2) (g := (mkF m 27 #[.val (.ref a1), .val (.ref ca), .val (.int (0 : Int32)), .val (.int (1 : Int32)), .val .null, .unset] [])) rfl (hb hby d19_27)
  have J6 : ∀ t, Steps p.tables e below (T5.setTop (mkF m 30 #[.val (.ref a1), .val (.ref ca), .val (.int (0 : Int32)), .val (.int (1 : Int32)), .val .null, .unset] [(.int cs)])) t → Steps p.tables e below (s₁.setTop (entryFrame m #[(.ref a1), (.ref ca), (.int (0 : Int32)), (.int (1 : Int32)), .null] 6)) t := fun t k => J4 t (st5 t k)
  have J7 : ∀ t, Steps p.tables e below (T5.setTop (mkF m 36 #[.val (.ref a1), .val (.ref ca), .val (.int (0 : Int32)), .val (.int (1 : Int32)), .val .null, .unset] [(.int (1 : Int32)), (.int (0 : Int32)), (.ref ca)])) t → Steps p.tables e below (s₁.setTop (entryFrame m #[(.ref a1), (.ref ca), (.int (0 : Int32)), (.int (1 : Int32)), .null] 6)) t := fun t k => J6 t (by
      show Steps p.tables e below (T5.setTop (mkF m 30 #[.val (.ref a1), .val (.ref ca), .val (.int (0 : Int32)), .val (.int (1 : Int32)), .val .null, .unset] [(.int cs)])) _
      refine XS.ifNo X5.here hx rfl (hb hby d19_30) rfl ((if0 _ _).trans (feq hcs).1) ?_
      show Steps p.tables e below (T5.setTop (mkF m 33 #[.val (.ref a1), .val (.ref ca), .val (.int (0 : Int32)), .val (.int (1 : Int32)), .val .null, .unset] [])) _
      refine XS.aloadN X5.here hx rfl (hb hby d19_33) rfl rfl ?_
      show Steps p.tables e below (T5.setTop (mkF m 34 #[.val (.ref a1), .val (.ref ca), .val (.int (0 : Int32)), .val (.int (1 : Int32)), .val .null, .unset] [(.ref ca)])) _
      refine XS.iloadN X5.here hx rfl (hb hby d19_34) rfl ?_
      show Steps p.tables e below (T5.setTop (mkF m 35 #[.val (.ref a1), .val (.ref ca), .val (.int (0 : Int32)), .val (.int (1 : Int32)), .val .null, .unset] [(.int (0 : Int32)), (.ref ca)])) _
      refine XS.iloadN X5.here hx rfl (hb hby d19_35) rfl ?_
      exact k)
  obtain ⟨_, _, ⟨T8, L8, k8, n8⟩, -, X8, ⟨Lc8, hQ8, l8, y8, z8⟩, st8⟩ := Jvm.LawKit.callS X5 hx (y := (⟨"java/lang/StringUTF16", "compress", "([CII)[B"⟩ : MethodName)) hown (mvT hZ (hw _ (List.mem_of_getElem? (i := 133) rfl))) (mvT hZ (hw _ (List.mem_of_getElem? (i := 134) rfl))) (mvT hZ (hw _ (List.mem_of_getElem? (i := 135) rfl))) (mvT hZ (hw _ (List.mem_of_getElem? (i := 136) rfl))) (by decide) (backOf (W := 0) (rm20L l Z a0 hw [] ca ccl ch h0 n0 Z0 Ar_ca (by assumption) (by assumption) (by assumption)) hZ (hw _ (List.mem_of_getElem? (i := 136) rfl)) (hw _ (List.mem_of_getElem? (i := 135) rfl)) (by decide) (by decide)) (g := (mkF m 36 #[.val (.ref a1), .val (.ref ca), .val (.int (0 : Int32)), .val (.int (1 : Int32)), .val .null, .unset] [(.int (1 : Int32)), (.int (0 : Int32)), (.ref ca)])) rfl (by rw [hml]; rfl) (argsL := [(.ref ca), (.int (0 : Int32)), (.int (1 : Int32))]) (rest := []) (lenOf pd_14 rfl) rfl (by show 2 * 0 + _ ≤ _; exact Nat.le_of_eq rfl) (hb hby d19_36) (fun _ _ => ⟨rfl, e5, (by decide : 0 + 1 ≤ _), (by decide : 0 + 1 ≤ _)⟩)
  dsimp only [Pt.U, Pt.locs, Pt.cells, Pt.slots] at X8 l8 y8 z8 st8 hQ8
  subst y8 z8
  obtain ⟨ba_8, bcl_8, rfl, Nq8, K8, p8_1, p8_2, p8_3, p8_4, p8_5⟩ := hQ8
  have N9 : Fr n0 L8 := by rw [l8]; exact Fr.app N0 Nq8
  have J10 : ∀ t, Steps p.tables e below (T8.setTop (mkF m 39 #[.val (.ref a1), .val (.ref ca), .val (.int (0 : Int32)), .val (.int (1 : Int32)), .val .null, .unset] [(.ref ba_8)])) t → Steps p.tables e below (s₁.setTop (entryFrame m #[(.ref a1), (.ref ca), (.int (0 : Int32)), (.int (1 : Int32)), .null] 6)) t := fun t k => J7 t (st8 t k)
  have Z11 : n0 ≤ T8.heap.size := Nat.le_trans Z0 K8.1
  have KK12 : Keep h0 T8.heap [a1] := (Keep.refl h0 [a1]).trans K8 all0
  have J13 : ∀ t, Steps p.tables e below (T8.setTop (mkF m 45 #[.val (.ref a1), .val (.ref ca), .val (.int (0 : Int32)), .val (.int (1 : Int32)), .val .null, .val (.ref ba_8)] [(.int (1 : Int32)), (.ref ba_8), (.ref a1)])) t → Steps p.tables e below (s₁.setTop (entryFrame m #[(.ref a1), (.ref ca), (.int (0 : Int32)), (.int (1 : Int32)), .null] 6)) t := fun t k => J10 t (by
      show Steps p.tables e below (T8.setTop (mkF m 39 #[.val (.ref a1), .val (.ref ca), .val (.int (0 : Int32)), .val (.int (1 : Int32)), .val .null, .unset] [(.ref ba_8)])) _
      refine XS.astore X8.here hx rfl (hb hby d19_39) rfl rfl (l' := #[.val (.ref a1), .val (.ref ca), .val (.int (0 : Int32)), .val (.int (1 : Int32)), .val .null, .val (.ref ba_8)]) rfl ?_
      show Steps p.tables e below (T8.setTop (mkF m 41 #[.val (.ref a1), .val (.ref ca), .val (.int (0 : Int32)), .val (.int (1 : Int32)), .val .null, .val (.ref ba_8)] [])) _
      refine XS.aloadN X8.here hx rfl (hb hby d19_41) rfl rfl ?_
      show Steps p.tables e below (T8.setTop (mkF m 42 #[.val (.ref a1), .val (.ref ca), .val (.int (0 : Int32)), .val (.int (1 : Int32)), .val .null, .val (.ref ba_8)] [(.ref a1)])) _
      refine XS.aload X8.here hx rfl (hb hby d19_42) rfl rfl ?_
      show Steps p.tables e below (T8.setTop (mkF m 44 #[.val (.ref a1), .val (.ref ca), .val (.int (0 : Int32)), .val (.int (1 : Int32)), .val .null, .val (.ref ba_8)] [(.ref ba_8), (.ref a1)])) _
      refine XS.iloadN X8.here hx rfl (hb hby d19_44) rfl ?_
      exact k)
  obtain ⟨_, _, ⟨T14, L14, k14, n14⟩, -, X14, ⟨Lc14, hQ14, l14, y14, z14⟩, st14⟩ := Jvm.LawKit.callS X8 hx (y := (⟨"java/lang/StringUTF16", "coderFromArrayLen", "([BI)B"⟩ : MethodName)) hown (mvT hZ (hw _ (List.mem_of_getElem? (i := 140) rfl))) (mvT hZ (hw _ (List.mem_of_getElem? (i := 141) rfl))) (mvT hZ (hw _ (List.mem_of_getElem? (i := 135) rfl))) (mvT hZ (hw _ (List.mem_of_getElem? (i := 142) rfl))) (by decide) (backOf (W := 1) (rm22L l Z a0 hw [] ba_8 bcl_8 T8.heap n0 Z11 p8_1 p8_2) hZ (hw _ (List.mem_of_getElem? (i := 142) rfl)) (hw _ (List.mem_of_getElem? (i := 135) rfl)) (by decide) (by decide)) (g := (mkF m 45 #[.val (.ref a1), .val (.ref ca), .val (.int (0 : Int32)), .val (.int (1 : Int32)), .val .null, .val (.ref ba_8)] [(.int (1 : Int32)), (.ref ba_8), (.ref a1)])) rfl (by rw [hml]; rfl) (argsL := [(.ref ba_8), (.int (1 : Int32))]) (rest := [(.ref a1)]) (lenOf pd_15 rfl) rfl (by show 2 * 0 + _ ≤ _; exact Nat.le_of_eq rfl) (hb hby d19_45) (fun _ _ => ⟨rfl, rfl, (by decide : 1 + 0 ≤ _), (by decide : 1 + 0 ≤ _)⟩)
  dsimp only [Pt.U, Pt.locs, Pt.cells, Pt.slots] at X14 l14 y14 z14 st14 hQ14
  subst y14 z14
  obtain ⟨rfl, Nq14, e14⟩ := hQ14
  have N15 : Fr n0 L14 := by rw [l14]; exact Fr.app N9 Nq14
  have J16 : ∀ t, Steps p.tables e below (T14.setTop (mkF m 48 #[.val (.ref a1), .val (.ref ca), .val (.int (0 : Int32)), .val (.int (1 : Int32)), .val .null, .val (.ref ba_8)] [(.int (0 : Int32)), (.ref a1)])) t → Steps p.tables e below (s₁.setTop (entryFrame m #[(.ref a1), (.ref ca), (.int (0 : Int32)), (.int (1 : Int32)), .null] 6)) t := fun t k => J13 t (st14 t k)
  have f17 := F_coder_a1.keep K8 nin0
  have f18 := E_a1.keep K8
  obtain ⟨T19, h19, X19, e19, W19, st19⟩ := putFN X14 hx hZ hown (hw _ (List.mem_of_getElem? (i := 143) rfl)) Via.refl e14 f17 f18 (Or.inr ⟨(hw _ (List.mem_of_getElem? (i := 8) rfl)), rfl, hnm⟩) (hw _ (List.mem_of_getElem? (i := 5) rfl)) (ty := .byte) (v' := (.int (0 : Int32))) (by decide) rfl (by decide) (g := (mkF m 48 #[.val (.ref a1), .val (.ref ca), .val (.int (0 : Int32)), .val (.int (1 : Int32)), .val .null, .val (.ref ba_8)] [(.int (0 : Int32)), (.ref a1)])) rfl rfl (hb hby d19_48)
  have J20 : ∀ t, Steps p.tables e below (T19.setTop (mkF m 51 #[.val (.ref a1), .val (.ref ca), .val (.int (0 : Int32)), .val (.int (1 : Int32)), .val .null, .val (.ref ba_8)] [])) t → Steps p.tables e below (s₁.setTop (entryFrame m #[(.ref a1), (.ref ca), (.int (0 : Int32)), (.int (1 : Int32)), .null] 6)) t := fun t k => J16 t (st19 t k)
  have Z21 : n0 ≤ h19.size := Nat.le_trans Z11 (Keep.of_wr W19).1
  have KK22 : Keep h0 h19 [a1] := KK12.wr W19 (Or.inl (List.mem_of_getElem? (i := 0) rfl))
  have N23 := Fr.snoc X19 N15 g_a1
  have Fw19 := f17.same W19
  have J24 : ∀ t, Steps p.tables e below (T19.setTop (mkF m 54 #[.val (.ref a1), .val (.ref ca), .val (.int (0 : Int32)), .val (.int (1 : Int32)), .val .null, .val (.ref ba_8)] [(.ref ba_8), (.ref a1)])) t → Steps p.tables e below (s₁.setTop (entryFrame m #[(.ref a1), (.ref ca), (.int (0 : Int32)), (.int (1 : Int32)), .null] 6)) t := fun t k => J20 t (by
      show Steps p.tables e below (T19.setTop (mkF m 51 #[.val (.ref a1), .val (.ref ca), .val (.int (0 : Int32)), .val (.int (1 : Int32)), .val .null, .val (.ref ba_8)] [])) _
      refine XS.aloadN X19.here hx rfl (hb hby d19_51) rfl rfl ?_
      show Steps p.tables e below (T19.setTop (mkF m 52 #[.val (.ref a1), .val (.ref ca), .val (.int (0 : Int32)), .val (.int (1 : Int32)), .val .null, .val (.ref ba_8)] [(.ref a1)])) _
      refine XS.aload X19.here hx rfl (hb hby d19_52) rfl rfl ?_
      exact k)
  have f25 := F_value_a1.keep K8 nin0
  have f26 := f25.other W19 (Or.inr (slot_ne (Or.inr (hw _ (List.mem_of_getElem? (i := 7) rfl))) (Or.inr (hw _ (List.mem_of_getElem? (i := 8) rfl))) (by decide) (t := (.array .byte)) (t' := .byte) (by decide) (by decide)))
  have f27 := f18.wr W19
  obtain ⟨T28, h28, X28, e28, W28, st28⟩ := putF X19 hx hZ hown (host := "") (Or.inl (hw _ (List.mem_of_getElem? (i := 144) rfl))) Via.refl e19 f26 f27 (Or.inr ⟨(hw _ (List.mem_of_getElem? (i := 7) rfl)), rfl, hnm⟩) (hw _ (List.mem_of_getElem? (i := 5) rfl)) (ty := (.array .byte)) (by decide) rfl rfl (g := (mkF m 54 #[.val (.ref a1), .val (.ref ca), .val (.int (0 : Int32)), .val (.int (1 : Int32)), .val .null, .val (.ref ba_8)] [(.ref ba_8), (.ref a1)])) rfl rfl (hb hby d19_54)
  have J29 : ∀ t, Steps p.tables e below (T28.setTop (mkF m 57 #[.val (.ref a1), .val (.ref ca), .val (.int (0 : Int32)), .val (.int (1 : Int32)), .val .null, .val (.ref ba_8)] [])) t → Steps p.tables e below (s₁.setTop (entryFrame m #[(.ref a1), (.ref ca), (.int (0 : Int32)), (.int (1 : Int32)), .null] 6)) t := fun t k => J24 t (st28 t k)
  have Z30 : n0 ≤ h28.size := Nat.le_trans Z21 (Keep.of_wr W28).1
  have KK31 : Keep h0 h28 [a1] := KK22.wr W28 (Or.inl (List.mem_of_getElem? (i := 0) rfl))
  have N32 := Fr.snoc X28 N23 g_a1
  have Fw28 := f26.same W28
  obtain ⟨fs, hr, hrun, hended, hW, hsame⟩ := X28.leave (v := none) (fun _ => rfl)
  have f33 := f27.wr W28
  have f34 := Fw19.other W28 (Or.inr (slot_ne (Or.inr (hw _ (List.mem_of_getElem? (i := 8) rfl))) (Or.inr (hw _ (List.mem_of_getElem? (i := 7) rfl))) (by decide) (t := .byte) (t' := (.array .byte)) (by decide) (by decide)))
  have f35 := p8_1.other W19 (Ne.symm (Nat.ne_of_lt (Nat.lt_of_lt_of_le E_a1.lt p8_5)))
  have f36 := f35.other W28 (Ne.symm (Nat.ne_of_lt (Nat.lt_of_lt_of_le E_a1.lt p8_5)))
  refine ⟨_, _, J29 _ ?_, hrun, hended, _, _, rfl, ?_, ⟨_, rfl⟩, hW, hsame.mono (by decide) (by decide)⟩
  · show Steps p.tables e below (T28.setTop (mkF m 57 #[.val (.ref a1), .val (.ref ca), .val (.int (0 : Int32)), .val (.int (1 : Int32)), .val .null, .val (.ref ba_8)] [])) _
    exact X28.returnOut hx Bd.returns (hb hby d19_57) hr
  · show Q19L Z a1 ca ccl ch u1 u2 cs h0 n0 _ T28.heap _
    rw [e28]
    exact ⟨ba_8, bcl_8, rfl, N32, KK31, f33, Fw28, f34, f36, p8_2, p8_3, (Nat.le_trans (Keep.refl h0 [a1]).1 p8_5)⟩
theorem d15_0 : decode jdk_42_method_4_code 0 = .ok (.aload_n 0, 1) := by decide +kernel
theorem d15_1 : decode jdk_42_method_4_code 1 = .ok (.aload_n 1, 1) := by decide +kernel
theorem d15_2 : decode jdk_42_method_4_code 2 = .ok (.iload_n 2, 1) := by decide +kernel
theorem d15_3 : decode jdk_42_method_4_code 3 = .ok (.iload_n 3, 1) := by decide +kernel
theorem d15_4 : decode jdk_42_method_4_code 4 = .ok (.aload_n 1, 1) := by decide +kernel
theorem d15_5 : decode jdk_42_method_4_code 5 = .ok (.iload_n 2, 1) := by decide +kernel
theorem d15_6 : decode jdk_42_method_4_code 6 = .ok (.iload_n 3, 1) := by decide +kernel
theorem d15_7 : decode jdk_42_method_4_code 7 = .ok (.invokestatic 30, 3) := by decide +kernel
theorem pd_16 : parseMethodDescriptor "([CII)Ljava/lang/Void;" = some ⟨[(.array .char), .int, .int], some (.object "java/lang/Void")⟩ := by decide +kernel
theorem d15_10 : decode jdk_42_method_4_code 10 = .ok (.invokespecial 27, 3) := by decide +kernel
theorem pd_17 : parseMethodDescriptor "([CIILjava/lang/Void;)V" = some ⟨[(.array .char), .int, .int, (.object "java/lang/Void")], none⟩ := by decide +kernel
theorem d15_13 : decode jdk_42_method_4_code 13 = .ok (.return_, 1) := by decide +kernel
theorem pn_15 : plainName "java/lang/String" = true := by first | (simp [plainName, overriddenIn]; done) | decide +kernel
theorem ef_15_xxxx (m : MethodId) (x0 : Addr) (x1 : Addr) (x2 : Int32) (x3 : Int32) : entryFrame m #[(.ref x0), (.ref x1), (.int x2), (.int x3)] 4 = mkF m 0 #[.val (.ref x0), .val (.ref x1), .val (.int x2), .val (.int x3)] [] := by first | (simp [entryFrame, mkF, argsToLocals, Value.category]; done) | rfl
def Q15L (Z : State) (a1 : Addr) (ca : Addr) (ccl : Cell) (ch : Int32) (u1 : Value) (u2 : Value) (cs : Int32) (fm : Value) (h0 : Heap) (n0 : Nat) (v : Option Value) (h : Heap) (L : List Loc) : Prop := ∃ (ba : Addr) (bcl : Cell), v = none ∧ Fr n0 L ∧ Keep h0 h [a1] ∧ (Exa Z h a1 "java/lang/String") ∧ (Fld Z h a1 "java/lang/String" "value" "[B" (.ref ba)) ∧ (Fld Z h a1 "java/lang/String" "coder" "B" (.int (0 : Int32))) ∧ (Arr Z h ba bcl .byte) ∧ (bcl.slots.size = 1) ∧ (bcl.slots[0]? = some (.int (nar .byte (ch.toInt8.toInt32)))) ∧ (h0.size ≤ ba)
set_option maxRecDepth 65536 in
set_option maxHeartbeats 40000000 in
theorem rm15L (l : Launch) (Z : State) (a0 : Array Value) (hw : ∀ d ∈ tables_1, d.before a0 Z = true) (ws : List Jvm.Cond) (a1 : Addr) (ca : Addr) (ccl : Cell) (ch : Int32) (u1 : Value) (u2 : Value) (cs : Int32) (fm : Value) (h0 : Heap) (n0 : Nat) (Z0 : n0 ≤ h0.size) (E_a1 : Exa Z h0 a1 "java/lang/String") (g_a1 : n0 ≤ a1) (F_value_a1 : Fld Z h0 a1 "java/lang/String" "value" "[B" u1) (F_coder_a1 : Fld Z h0 a1 "java/lang/String" "coder" "B" u2) (Ar_ca : Arr Z h0 ca ccl .char) (hcz : ccl.slots.size = 256) (hc0 : ccl.slots[0]? = some (.int ch)) (hk : ¬ (255 : Int32) < ch) (O : Old Z n0 h0) (Zs_COMPACT_STRINGS : Sta Z Z.heap "java/lang/String" "COMPACT_STRINGS" "Z" (.int cs)) (hcs : ¬ cs = (0 : Int32)) (ne_a1_ca : a1 ≠ ca) (Zs_SIOOBE_FORMATTER : Sta Z Z.heap "jdk/internal/util/Preconditions" "SIOOBE_FORMATTER" "Ljava/util/function/BiFunction;" fm) (hfm : fm.isRef = true) :
    MetFree l (⟨"java/lang/String", "<init>", "([CII)V"⟩ : MethodName) (head1 (Jvm.Cond.code (⟨"java/lang/String", "<init>", "([CII)V"⟩ : MethodName) jdk_42_method_4_code 4 none :: ws) ({ frames := 3, cells := 1, slots := 1, locals := 52 } : Room)) (fun a U => a = #[(.ref a1), (.ref ca), (.int (0 : Int32)), (.int (1 : Int32))] ∧ Z.Warmed39 U.vm ∧ U.heap = h0) (fun _ _ _ _ _ => True) (fun _ U o U' => ∃ v L, o = .returned v ∧ Q15L Z a1 ca ccl ch u1 u2 cs fm h0 n0 v U'.heap L ∧ FrameEnd U o U' L ({ frames := 3, cells := 1, slots := 1, locals := 52 } : Room).cells ({ frames := 3, cells := 1, slots := 1, locals := 52 } : Room).slots) := by
  refine MetFree.of_bodySF (plainFor_of_name pn_15) hisR ?_
  intro p e s m args below meth c s₁ Bd hml0 hP hK
  obtain ⟨rfl, hZ, hh⟩ := hP
  have hx := Bd.exec
  have hby := Bd.bytes
  have hml : c.maxLocals = 4 := hml0
  have hown : s.vm.findClass "java/lang/String" = some m.cls := findClass_of_methodNamed Bd.named
  have hnm := (name_of_methodNamed Bd.named Bd.method).1
  have X0 : Stand p l e ({ frames := 3, cells := 1, slots := 1, locals := 52 } : Room) s m #[(.ref a1), (.ref ca), (.int (0 : Int32)), (.int (1 : Int32))] below meth c s₁ [] 0 0 := Stand.of_body Bd
  have e0 : s₁.heap = h0 := by rw [← hh, Bd.state]; rfl
  have N0 := Fr.nil n0
  have pre0 : ∀ t, Steps p.tables e below (s₁.setTop (mkF m 0 #[.val (.ref a1), .val (.ref ca), .val (.int (0 : Int32)), .val (.int (1 : Int32))] [])) t → Steps p.tables e below (s₁.setTop (entryFrame m #[(.ref a1), (.ref ca), (.int (0 : Int32)), (.int (1 : Int32))] 4)) t := fun t k => castTop (ef_15_xxxx m a1 ca (0 : Int32) (1 : Int32)) k
  have J1 : ∀ t, Steps p.tables e below (s₁.setTop (mkF m 7 #[.val (.ref a1), .val (.ref ca), .val (.int (0 : Int32)), .val (.int (1 : Int32))] [(.int (1 : Int32)), (.int (0 : Int32)), (.ref ca), (.int (1 : Int32)), (.int (0 : Int32)), (.ref ca), (.ref a1)])) t → Steps p.tables e below (s₁.setTop (entryFrame m #[(.ref a1), (.ref ca), (.int (0 : Int32)), (.int (1 : Int32))] 4)) t := fun t k => pre0 t (by
      show Steps p.tables e below (s₁.setTop (mkF m 0 #[.val (.ref a1), .val (.ref ca), .val (.int (0 : Int32)), .val (.int (1 : Int32))] [])) _
      refine XS.aloadN X0.here hx rfl (hb hby d15_0) rfl rfl ?_
      show Steps p.tables e below (s₁.setTop (mkF m 1 #[.val (.ref a1), .val (.ref ca), .val (.int (0 : Int32)), .val (.int (1 : Int32))] [(.ref a1)])) _
      refine XS.aloadN X0.here hx rfl (hb hby d15_1) rfl rfl ?_
      show Steps p.tables e below (s₁.setTop (mkF m 2 #[.val (.ref a1), .val (.ref ca), .val (.int (0 : Int32)), .val (.int (1 : Int32))] [(.ref ca), (.ref a1)])) _
      refine XS.iloadN X0.here hx rfl (hb hby d15_2) rfl ?_
      show Steps p.tables e below (s₁.setTop (mkF m 3 #[.val (.ref a1), .val (.ref ca), .val (.int (0 : Int32)), .val (.int (1 : Int32))] [(.int (0 : Int32)), (.ref ca), (.ref a1)])) _
      refine XS.iloadN X0.here hx rfl (hb hby d15_3) rfl ?_
      show Steps p.tables e below (s₁.setTop (mkF m 4 #[.val (.ref a1), .val (.ref ca), .val (.int (0 : Int32)), .val (.int (1 : Int32))] [(.int (1 : Int32)), (.int (0 : Int32)), (.ref ca), (.ref a1)])) _
      refine XS.aloadN X0.here hx rfl (hb hby d15_4) rfl rfl ?_
      show Steps p.tables e below (s₁.setTop (mkF m 5 #[.val (.ref a1), .val (.ref ca), .val (.int (0 : Int32)), .val (.int (1 : Int32))] [(.ref ca), (.int (1 : Int32)), (.int (0 : Int32)), (.ref ca), (.ref a1)])) _
      refine XS.iloadN X0.here hx rfl (hb hby d15_5) rfl ?_
      show Steps p.tables e below (s₁.setTop (mkF m 6 #[.val (.ref a1), .val (.ref ca), .val (.int (0 : Int32)), .val (.int (1 : Int32))] [(.int (0 : Int32)), (.ref ca), (.int (1 : Int32)), (.int (0 : Int32)), (.ref ca), (.ref a1)])) _
      refine XS.iloadN X0.here hx rfl (hb hby d15_6) rfl ?_
      exact k)
  obtain ⟨_, _, ⟨T2, L2, k2, n2⟩, -, X2, ⟨Lc2, hQ2, l2, y2, z2⟩, st2⟩ := Jvm.LawKit.callS X0 hx (y := (⟨"java/lang/String", "rangeCheck", "([CII)Ljava/lang/Void;"⟩ : MethodName)) hown (mvT hZ (hw _ (List.mem_of_getElem? (i := 116) rfl))) (mvT hZ (hw _ (List.mem_of_getElem? (i := 117) rfl))) (mvT hZ (hw _ (List.mem_of_getElem? (i := 4) rfl))) (mvT hZ (hw _ (List.mem_of_getElem? (i := 118) rfl))) (by decide) (backOf (W := 4) (rm16 l Z a0 hw [] ca ccl fm h0 n0 Z0 Ar_ca (by assumption) O Zs_SIOOBE_FORMATTER (by assumption)) hZ (hw _ (List.mem_of_getElem? (i := 118) rfl)) (hw _ (List.mem_of_getElem? (i := 4) rfl)) (by decide) (by decide)) (g := (mkF m 7 #[.val (.ref a1), .val (.ref ca), .val (.int (0 : Int32)), .val (.int (1 : Int32))] [(.int (1 : Int32)), (.int (0 : Int32)), (.ref ca), (.int (1 : Int32)), (.int (0 : Int32)), (.ref ca), (.ref a1)])) rfl (by rw [hml]; rfl) (argsL := [(.ref ca), (.int (0 : Int32)), (.int (1 : Int32))]) (rest := [(.int (1 : Int32)), (.int (0 : Int32)), (.ref ca), (.ref a1)]) (lenOf pd_16 rfl) rfl (by show 2 * 0 + _ ≤ _; exact Nat.le_of_eq rfl) (hb hby d15_7) (fun _ _ => ⟨rfl, e0, (by decide : 0 + 0 ≤ _), (by decide : 0 + 0 ≤ _)⟩)
  dsimp only [Pt.U, Pt.locs, Pt.cells, Pt.slots] at X2 l2 y2 z2 st2 hQ2
  subst y2 z2
  obtain ⟨rfl, Nq2, e2⟩ := hQ2
  have N3 : Fr n0 L2 := by rw [l2]; exact Fr.app N0 Nq2
  have J4 : ∀ t, Steps p.tables e below (T2.setTop (mkF m 10 #[.val (.ref a1), .val (.ref ca), .val (.int (0 : Int32)), .val (.int (1 : Int32))] [.null, (.int (1 : Int32)), (.int (0 : Int32)), (.ref ca), (.ref a1)])) t → Steps p.tables e below (s₁.setTop (entryFrame m #[(.ref a1), (.ref ca), (.int (0 : Int32)), (.int (1 : Int32))] 4)) t := fun t k => J1 t (st2 t k)
  obtain ⟨_, _, ⟨T5, L5, k5, n5⟩, -, X5, ⟨Lc5, hQ5, l5, y5, z5⟩, st5⟩ := X2.specialBack hx (y := (⟨"java/lang/String", "<init>", "([CIILjava/lang/Void;)V"⟩ : MethodName)) rfl hown (mvT hZ (hw _ (List.mem_of_getElem? (i := 127) rfl))) (mvT hZ (hw _ (List.mem_of_getElem? (i := 128) rfl))) (mvT hZ (hw _ (List.mem_of_getElem? (i := 130) rfl))) (by decide) (backOf (W := 0) (rm19L l Z a0 hw [] a1 ca ccl ch u1 u2 cs h0 n0 Z0 E_a1 g_a1 F_value_a1 F_coder_a1 Ar_ca (by assumption) (by assumption) (by assumption) O Zs_COMPACT_STRINGS (by assumption) ne_a1_ca) hZ (hw _ (List.mem_of_getElem? (i := 130) rfl)) (hw _ (List.mem_of_getElem? (i := 4) rfl)) (by decide) (by decide)) (g := (mkF m 10 #[.val (.ref a1), .val (.ref ca), .val (.int (0 : Int32)), .val (.int (1 : Int32))] [.null, (.int (1 : Int32)), (.int (0 : Int32)), (.ref ca), (.ref a1)])) rfl (by rw [hml]; rfl) (Steps.refl _) (a := a1) (argsL := [(.ref ca), (.int (0 : Int32)), (.int (1 : Int32)), .null]) (rest := []) (lenOf pd_17 rfl) rfl (by show 2 * 0 + _ ≤ _; exact Nat.le_of_eq rfl) (hb hby d15_10) (fun _ _ => ⟨rfl, e2, (by decide : 0 + 1 ≤ _), (by decide : 0 + 1 ≤ _)⟩)
  dsimp only [Pt.U, Pt.locs, Pt.cells, Pt.slots] at X5 l5 y5 z5 st5 hQ5
  subst y5 z5
  obtain ⟨ba_5, bcl_5, rfl, Nq5, K5, p5_1, p5_2, p5_3, p5_4, p5_5, p5_6, p5_7⟩ := hQ5
  have N6 : Fr n0 L5 := by rw [l5]; exact Fr.app N3 Nq5
  have J7 : ∀ t, Steps p.tables e below (T5.setTop (mkF m 13 #[.val (.ref a1), .val (.ref ca), .val (.int (0 : Int32)), .val (.int (1 : Int32))] [])) t → Steps p.tables e below (s₁.setTop (entryFrame m #[(.ref a1), (.ref ca), (.int (0 : Int32)), (.int (1 : Int32))] 4)) t := fun t k => J4 t (st5.trans k)
  have Z8 : n0 ≤ T5.heap.size := Nat.le_trans Z0 K5.1
  have KK9 : Keep h0 T5.heap [a1] := (Keep.refl h0 [a1]).trans K5 (allS (Or.inl (List.mem_of_getElem? (i := 0) rfl)) all0)
  obtain ⟨fs, hr, hrun, hended, hW, hsame⟩ := X5.leave (v := none) (fun _ => rfl)
  refine ⟨_, _, J7 _ ?_, hrun, hended, _, _, rfl, ?_, ⟨_, rfl⟩, hW, hsame.mono (by decide) (by decide)⟩
  · show Steps p.tables e below (T5.setTop (mkF m 13 #[.val (.ref a1), .val (.ref ca), .val (.int (0 : Int32)), .val (.int (1 : Int32))] [])) _
    exact X5.returnOut hx Bd.returns (hb hby d15_13) hr
  · show Q15L Z a1 ca ccl ch u1 u2 cs fm h0 n0 _ T5.heap _
    exact ⟨ba_5, bcl_5, rfl, N6, KK9, p5_1, p5_2, p5_3, p5_4, p5_5, p5_6, (Nat.le_trans (Keep.refl h0 [a1]).1 p5_7)⟩
theorem d11_0 : decode prog_18_method_8_code 0 = .ok (.new 74, 3) := by decide +kernel
theorem d11_3 : decode prog_18_method_8_code 3 = .ok (.dup, 1) := by decide +kernel
theorem d11_4 : decode prog_18_method_8_code 4 = .ok (.aload_n 0, 1) := by decide +kernel
theorem d11_5 : decode prog_18_method_8_code 5 = .ok (.getfield 47, 3) := by decide +kernel
theorem d11_8 : decode prog_18_method_8_code 8 = .ok (.invokespecial 76, 3) := by decide +kernel
theorem pd_18 : parseMethodDescriptor "(I)V" = some ⟨[.int], none⟩ := by decide +kernel
theorem d11_11 : decode prog_18_method_8_code 11 = .ok (.astore_n 1, 1) := by decide +kernel
theorem d11_12 : decode prog_18_method_8_code 12 = .ok (.iconst 0, 1) := by decide +kernel
theorem d11_13 : decode prog_18_method_8_code 13 = .ok (.istore_n 2, 1) := by decide +kernel
theorem d11_14 : decode prog_18_method_8_code 14 = .ok (.iload_n 2, 1) := by decide +kernel
theorem d11_15 : decode prog_18_method_8_code 15 = .ok (.aload_n 0, 1) := by decide +kernel
theorem d11_16 : decode prog_18_method_8_code 16 = .ok (.getfield 47, 3) := by decide +kernel
theorem d11_19 : decode prog_18_method_8_code 19 = .ok (.if_icmp .ge 53, 3) := by decide +kernel
theorem d11_22 : decode prog_18_method_8_code 22 = .ok (.iload_n 2, 1) := by decide +kernel
theorem d11_23 : decode prog_18_method_8_code 23 = .ok (.ifCond .ne 7, 3) := by decide +kernel
theorem d11_26 : decode prog_18_method_8_code 26 = .ok (.iconst 0, 1) := by decide +kernel
theorem d11_27 : decode prog_18_method_8_code 27 = .ok (.goto 11, 3) := by decide +kernel
theorem d11_38 : decode prog_18_method_8_code 38 = .ok (.istore_n 3, 1) := by decide +kernel
theorem d11_39 : decode prog_18_method_8_code 39 = .ok (.aload_n 1, 1) := by decide +kernel
theorem d11_40 : decode prog_18_method_8_code 40 = .ok (.new 79, 3) := by decide +kernel
theorem d11_43 : decode prog_18_method_8_code 43 = .ok (.dup, 1) := by decide +kernel
theorem d11_44 : decode prog_18_method_8_code 44 = .ok (.aload_n 0, 1) := by decide +kernel
theorem d11_45 : decode prog_18_method_8_code 45 = .ok (.getfield 39, 3) := by decide +kernel
theorem d11_48 : decode prog_18_method_8_code 48 = .ok (.iload_n 3, 1) := by decide +kernel
theorem d11_49 : decode prog_18_method_8_code 49 = .ok (.aload_n 0, 1) := by decide +kernel
theorem d11_50 : decode prog_18_method_8_code 50 = .ok (.getfield 43, 3) := by decide +kernel
theorem d11_53 : decode prog_18_method_8_code 53 = .ok (.iload_n 2, 1) := by decide +kernel
theorem d11_54 : decode prog_18_method_8_code 54 = .ok (.iaload, 1) := by decide +kernel
theorem d11_55 : decode prog_18_method_8_code 55 = .ok (.iload_n 3, 1) := by decide +kernel
theorem d11_56 : decode prog_18_method_8_code 56 = .ok (.isub, 1) := by decide +kernel
theorem d11_57 : decode prog_18_method_8_code 57 = .ok (.invokespecial 81, 3) := by decide +kernel
theorem pd_19 : parseMethodDescriptor "([CII)V" = some ⟨[(.array .char), .int, .int], none⟩ := by decide +kernel
theorem d11_60 : decode prog_18_method_8_code 60 = .ok (.invokeinterface 84 2, 5) := by decide +kernel
theorem pd_20 : parseMethodDescriptor "(Ljava/lang/Object;)Z" = some ⟨[(.object "java/lang/Object")], some .boolean⟩ := by decide +kernel
theorem d11_65 : decode prog_18_method_8_code 65 = .ok (.pop, 1) := by decide +kernel
theorem d11_66 : decode prog_18_method_8_code 66 = .ok (.iinc 2 1, 3) := by decide +kernel
theorem d11_69 : decode prog_18_method_8_code 69 = .ok (.goto (-55), 3) := by decide +kernel
theorem d11_72 : decode prog_18_method_8_code 72 = .ok (.aload_n 1, 1) := by decide +kernel
theorem d11_73 : decode prog_18_method_8_code 73 = .ok (.areturn, 1) := by decide +kernel
theorem pn_11 : plainName "com/example/capwright/capwright/csv/CsvRow" = true := by first | (simp [plainName, overriddenIn]; done) | decide +kernel
theorem ef_11_x (m : MethodId) (x0 : Addr) : entryFrame m #[(.ref x0)] 4 = mkF m 0 #[.val (.ref x0), .unset, .unset, .unset] [] := by first | (simp [entryFrame, mkF, argsToLocals, Value.category]; done) | rfl
def Q11L (Z : State) (a1 : Addr) (ca : Addr) (ccl : Cell) (ch : Int32) (ea : Addr) (ecl : Cell) (cs : Int32) (fm : Value) (h0 : Heap) (n0 : Nat) (v : Option Value) (h : Heap) (L : List Loc) : Prop := ∃ (lst : Addr) (el : Addr) (lcl : Cell) (st : Addr) (ba : Addr) (bcl : Cell), v = some (.ref lst) ∧ Fr n0 L ∧ Keep h0 h [] ∧ (Exa Z h lst "java/util/ArrayList") ∧ (Fld Z h lst "java/util/ArrayList" "size" "I" (.int (1 : Int32))) ∧ (Fld Z h lst "java/util/ArrayList" "elementData" "[Ljava/lang/Object;" (.ref el)) ∧ (Arr Z h el lcl (.object "java/lang/Object")) ∧ (lcl.slots.size = 1) ∧ (lcl.slots[0]? = some (.ref st)) ∧ (Exa Z h st "java/lang/String") ∧ (Fld Z h st "java/lang/String" "value" "[B" (.ref ba)) ∧ (Fld Z h st "java/lang/String" "coder" "B" (.int (0 : Int32))) ∧ (Arr Z h ba bcl .byte) ∧ (bcl.slots.size = 1) ∧ (bcl.slots[0]? = some (.int (nar .byte (ch.toInt8.toInt32))))
set_option maxRecDepth 65536 in
set_option maxHeartbeats 40000000 in
theorem rm11L (l : Launch) (Z : State) (a0 : Array Value) (hw : ∀ d ∈ tables_1, d.before a0 Z = true) (ws : List Jvm.Cond) (a1 : Addr) (ca : Addr) (ccl : Cell) (ch : Int32) (ea : Addr) (ecl : Cell) (cs : Int32) (fm : Value) (h0 : Heap) (n0 : Nat) (Z0 : n0 ≤ h0.size) (E_a1 : Exa Z h0 a1 "com/example/capwright/capwright/csv/CsvRow") (F_size_a1 : Fld Z h0 a1 "com/example/capwright/capwright/csv/CsvRow" "size" "I" (.int (1 : Int32))) (F_chars_a1 : Fld Z h0 a1 "com/example/capwright/capwright/csv/CsvRow" "chars" "[C" (.ref ca)) (F_ends_a1 : Fld Z h0 a1 "com/example/capwright/capwright/csv/CsvRow" "ends" "[I" (.ref ea)) (Ar_ca : Arr Z h0 ca ccl .char) (hcz : ccl.slots.size = 256) (hc0 : ccl.slots[0]? = some (.int ch)) (Ar_ea : Arr Z h0 ea ecl .int) (hez : ecl.slots.size = 16) (he0 : ecl.slots[0]? = some (.int (1 : Int32))) (hk : ¬ (255 : Int32) < ch) (O : Old Z n0 h0) (Zs_COMPACT_STRINGS : Sta Z Z.heap "java/lang/String" "COMPACT_STRINGS" "Z" (.int cs)) (hcs : ¬ cs = (0 : Int32)) (Zs_SIOOBE_FORMATTER : Sta Z Z.heap "jdk/internal/util/Preconditions" "SIOOBE_FORMATTER" "Ljava/util/function/BiFunction;" fm) (hfm : fm.isRef = true) :
    MetFree l (⟨"com/example/capwright/capwright/csv/CsvRow", "fields", "()Ljava/util/List;"⟩ : MethodName) (head1 (Jvm.Cond.code (⟨"com/example/capwright/capwright/csv/CsvRow", "fields", "()Ljava/util/List;"⟩ : MethodName) prog_18_method_8_code 4 (some (.object "java/util/List")) :: ws) ({ frames := 4, cells := 4, slots := 9, locals := 69 } : Room)) (fun a U => a = #[(.ref a1)] ∧ Z.Warmed39 U.vm ∧ U.heap = h0) (fun _ _ _ _ _ => True) (fun _ U o U' => ∃ v L, o = .returned v ∧ Q11L Z a1 ca ccl ch ea ecl cs fm h0 n0 v U'.heap L ∧ FrameEnd U o U' L ({ frames := 4, cells := 4, slots := 9, locals := 69 } : Room).cells ({ frames := 4, cells := 4, slots := 9, locals := 69 } : Room).slots) := by
  refine MetFree.of_bodySF (plainFor_of_name pn_11) hisR ?_
  intro p e s m args below meth c s₁ Bd hml0 hP hK
  obtain ⟨rfl, hZ, hh⟩ := hP
  have hx := Bd.exec
  have hby := Bd.bytes
  have hml : c.maxLocals = 4 := hml0
  have hown : s.vm.findClass "com/example/capwright/capwright/csv/CsvRow" = some m.cls := findClass_of_methodNamed Bd.named
  have hnm := (name_of_methodNamed Bd.named Bd.method).1
  have X0 : Stand p l e ({ frames := 4, cells := 4, slots := 9, locals := 69 } : Room) s m #[(.ref a1)] below meth c s₁ [] 0 0 := Stand.of_body Bd
  have e0 : s₁.heap = h0 := by rw [← hh, Bd.state]; rfl
  have N0 := Fr.nil n0
  have pre0 : ∀ t, Steps p.tables e below (s₁.setTop (mkF m 0 #[.val (.ref a1), .unset, .unset, .unset] [])) t → Steps p.tables e below (s₁.setTop (entryFrame m #[(.ref a1)] 4)) t := fun t k => castTop (ef_11_x m a1) k
  obtain ⟨T1, h1, X1, e1, E1, A1, D1, -, st1⟩ := newO X0 hx hZ hown (hw _ (List.mem_of_getElem? (i := 87) rfl)) (hw _ (List.mem_of_getElem? (i := 88) rfl)) (hw _ (List.mem_of_getElem? (i := 89) rfl)) e0 (g := (mkF m 0 #[.val (.ref a1), .unset, .unset, .unset] [])) rfl (hb hby d11_0) (by decide) (by decide)
  obtain ⟨b1, g1⟩ : ∃ z, z = h0.size := ⟨_, rfl⟩
  rw [← g1] at A1 D1 st1
  have J2 : ∀ t, Steps p.tables e below (T1.setTop (mkF m 3 #[.val (.ref a1), .unset, .unset, .unset] [(.ref b1)])) t → Steps p.tables e below (s₁.setTop (entryFrame m #[(.ref a1)] 4)) t := fun t k => pre0 t (st1 t k)
  have ne3 : a1 ≠ b1 := Nat.ne_of_lt (Nat.lt_of_lt_of_le E_a1.lt (Nat.le_of_eq g1.symm))
  have ne4 : ca ≠ b1 := Nat.ne_of_lt (Nat.lt_of_lt_of_le Ar_ca.lt (Nat.le_of_eq g1.symm))
  have ne5 : ea ≠ b1 := Nat.ne_of_lt (Nat.lt_of_lt_of_le Ar_ea.lt (Nat.le_of_eq g1.symm))
  have ge6 : n0 ≤ b1 := Nat.le_trans Z0 (Nat.le_of_eq g1.symm)
  have sz7 : h0.size ≤ b1 := Nat.le_trans (Keep.refl h0 []).1 (Nat.le_of_eq g1.symm)
  have Z8 : n0 ≤ h1.size := Nat.le_trans Z0 E1.1
  have KK9 : Keep h0 h1 [] := (Keep.refl h0 []).ext E1
  have F1_modCount : Fld Z h1 b1 "java/util/AbstractList" "modCount" "I" (.int (0 : Int32)) := D1 (Or.inl (hw _ (List.mem_of_getElem? (i := 107) rfl))) (ty := .int) (by decide)
  have F1_elementData : Fld Z h1 b1 "java/util/ArrayList" "elementData" "[Ljava/lang/Object;" .null := D1 (Or.inl (hw _ (List.mem_of_getElem? (i := 111) rfl))) (ty := (.array (.object "java/lang/Object"))) (by decide)
  have F1_size : Fld Z h1 b1 "java/util/ArrayList" "size" "I" (.int (0 : Int32)) := D1 (Or.inl (hw _ (List.mem_of_getElem? (i := 157) rfl))) (ty := .int) (by decide)
  have J10 : ∀ t, Steps p.tables e below (T1.setTop (mkF m 5 #[.val (.ref a1), .unset, .unset, .unset] [(.ref a1), (.ref b1), (.ref b1)])) t → Steps p.tables e below (s₁.setTop (entryFrame m #[(.ref a1)] 4)) t := fun t k => J2 t (by
      show Steps p.tables e below (T1.setTop (mkF m 3 #[.val (.ref a1), .unset, .unset, .unset] [(.ref b1)])) _
      refine XS.dup X1.here hx rfl (hb hby d11_3) rfl rfl ?_
      show Steps p.tables e below (T1.setTop (mkF m 4 #[.val (.ref a1), .unset, .unset, .unset] [(.ref b1), (.ref b1)])) _
      refine XS.aloadN X1.here hx rfl (hb hby d11_4) rfl rfl ?_
      exact k)
  have f11 := F_size_a1.ext E1
  obtain ⟨T12, X12, e12, st12⟩ := getF X1 hx hZ hown (host := "") (Or.inl (hw _ (List.mem_of_getElem? (i := 49) rfl))) Via.refl e1 f11 (g := (mkF m 5 #[.val (.ref a1), .unset, .unset, .unset] [(.ref a1), (.ref b1), (.ref b1)])) rfl rfl (hb hby d11_5)
  have J13 : ∀ t, Steps p.tables e below (T12.setTop (mkF m 8 #[.val (.ref a1), .unset, .unset, .unset] [(.int (1 : Int32)), (.ref b1), (.ref b1)])) t → Steps p.tables e below (s₁.setTop (entryFrame m #[(.ref a1)] 4)) t := fun t k => J10 t (st12 t k)
  have f14 := E_a1.ext E1
  have f15 := Ar_ca.ext E1
  have f16 := Ar_ea.ext E1
  obtain ⟨_, _, ⟨T17, L17, k17, n17⟩, -, X17, ⟨Lc17, hQ17, l17, y17, z17⟩, st17⟩ := X12.specialBack hx (y := (⟨"java/util/ArrayList", "<init>", "(I)V"⟩ : MethodName)) rfl hown (mvT hZ (hw _ (List.mem_of_getElem? (i := 90) rfl))) (mvT hZ (hw _ (List.mem_of_getElem? (i := 91) rfl))) (mvT hZ (hw _ (List.mem_of_getElem? (i := 92) rfl))) (by decide) (backOf (W := 1) (rm12 l Z a0 hw [] b1 (.int (0 : Int32)) .null (0 : Int32) h1 n0 Z8 A1 ge6 F1_modCount F1_elementData F1_size) hZ (hw _ (List.mem_of_getElem? (i := 92) rfl)) (hw _ (List.mem_of_getElem? (i := 89) rfl)) (by decide) (by decide)) (g := (mkF m 8 #[.val (.ref a1), .unset, .unset, .unset] [(.int (1 : Int32)), (.ref b1), (.ref b1)])) rfl (by rw [hml]; rfl) (Steps.refl _) (a := b1) (argsL := [(.int (1 : Int32))]) (rest := [(.ref b1)]) (lenOf pd_18 rfl) rfl (by show 2 * 0 + _ ≤ _; exact Nat.le_of_eq rfl) (hb hby d11_8) (fun _ _ => ⟨rfl, e12, (by decide : 1 + 1 ≤ _), (by decide : 3 + 1 ≤ _)⟩)
  dsimp only [Pt.U, Pt.locs, Pt.cells, Pt.slots] at X17 l17 y17 z17 st17 hQ17
  subst y17 z17
  obtain ⟨el_17, lcl_17, rfl, Nq17, K17, p17_1, p17_2, p17_3, p17_4, p17_5, p17_6, p17_7, p17_8, p17_9⟩ := hQ17
  have N18 : Fr n0 L17 := by rw [l17]; exact Fr.app N0 Nq17
  have J19 : ∀ t, Steps p.tables e below (T17.setTop (mkF m 11 #[.val (.ref a1), .unset, .unset, .unset] [(.ref b1)])) t → Steps p.tables e below (s₁.setTop (entryFrame m #[(.ref a1)] 4)) t := fun t k => J13 t (st17.trans k)
  have Z20 : n0 ≤ T17.heap.size := Nat.le_trans Z8 K17.1
  have KK21 : Keep h0 T17.heap [] := KK9.trans K17 (allS (Or.inr sz7) all0)
  have J22 : ∀ t, Steps p.tables e below (T17.setTop (mkF m 16 #[.val (.ref a1), .val (.ref b1), .val (.int (0 : Int32)), .unset] [(.ref a1), (.int (0 : Int32))])) t → Steps p.tables e below (s₁.setTop (entryFrame m #[(.ref a1)] 4)) t := fun t k => J19 t (by
      show Steps p.tables e below (T17.setTop (mkF m 11 #[.val (.ref a1), .unset, .unset, .unset] [(.ref b1)])) _
      refine XS.astoreN X17.here hx rfl (hb hby d11_11) rfl rfl (l' := #[.val (.ref a1), .val (.ref b1), .unset, .unset]) rfl ?_
      show Steps p.tables e below (T17.setTop (mkF m 12 #[.val (.ref a1), .val (.ref b1), .unset, .unset] [])) _
      refine XS.iconst X17.here hx rfl (hb hby d11_12) ?_
      show Steps p.tables e below (T17.setTop (mkF m 13 #[.val (.ref a1), .val (.ref b1), .unset, .unset] [(.int (0 : Int32))])) _
      refine XS.istoreN X17.here hx rfl (hb hby d11_13) rfl (l' := #[.val (.ref a1), .val (.ref b1), .val (.int (0 : Int32)), .unset]) rfl ?_
      show Steps p.tables e below (T17.setTop (mkF m 14 #[.val (.ref a1), .val (.ref b1), .val (.int (0 : Int32)), .unset] [])) _
      refine XS.iloadN X17.here hx rfl (hb hby d11_14) rfl ?_
      show Steps p.tables e below (T17.setTop (mkF m 15 #[.val (.ref a1), .val (.ref b1), .val (.int (0 : Int32)), .unset] [(.int (0 : Int32))])) _
      refine XS.aloadN X17.here hx rfl (hb hby d11_15) rfl rfl ?_
      exact k)
  have f23 := f11.keep K17 (ninS ne3 nin0)
  obtain ⟨T24, X24, e24, st24⟩ := getF X17 hx hZ hown (host := "") (Or.inl (hw _ (List.mem_of_getElem? (i := 49) rfl))) Via.refl rfl f23 (g := (mkF m 16 #[.val (.ref a1), .val (.ref b1), .val (.int (0 : Int32)), .unset] [(.ref a1), (.int (0 : Int32))])) rfl rfl (hb hby d11_16)
  have J25 : ∀ t, Steps p.tables e below (T24.setTop (mkF m 19 #[.val (.ref a1), .val (.ref b1), .val (.int (0 : Int32)), .unset] [(.int (1 : Int32)), (.int (0 : Int32))])) t → Steps p.tables e below (s₁.setTop (entryFrame m #[(.ref a1)] 4)) t := fun t k => J22 t (st24 t k)
  have J26 : ∀ t, Steps p.tables e below (T24.setTop (mkF m 40 #[.val (.ref a1), .val (.ref b1), .val (.int (0 : Int32)), .val (.int (0 : Int32))] [(.ref b1)])) t → Steps p.tables e below (s₁.setTop (entryFrame m #[(.ref a1)] 4)) t := fun t k => J25 t (by
      show Steps p.tables e below (T24.setTop (mkF m 19 #[.val (.ref a1), .val (.ref b1), .val (.int (0 : Int32)), .unset] [(.int (1 : Int32)), (.int (0 : Int32))])) _
      refine XS.icmpNo X24.here hx rfl (hb hby d11_19) rfl (tlt (by decide)).2.1 ?_
      show Steps p.tables e below (T24.setTop (mkF m 22 #[.val (.ref a1), .val (.ref b1), .val (.int (0 : Int32)), .unset] [])) _
      refine XS.iloadN X24.here hx rfl (hb hby d11_22) rfl ?_
      show Steps p.tables e below (T24.setTop (mkF m 23 #[.val (.ref a1), .val (.ref b1), .val (.int (0 : Int32)), .unset] [(.int (0 : Int32))])) _
      refine XS.ifNo X24.here hx rfl (hb hby d11_23) rfl ((if0 _ _).trans (teq (by decide)).2) ?_
      show Steps p.tables e below (T24.setTop (mkF m 26 #[.val (.ref a1), .val (.ref b1), .val (.int (0 : Int32)), .unset] [])) _
      refine XS.iconst X24.here hx rfl (hb hby d11_26) ?_
      show Steps p.tables e below (T24.setTop (mkF m 27 #[.val (.ref a1), .val (.ref b1), .val (.int (0 : Int32)), .unset] [(.int (0 : Int32))])) _
      refine XS.goto X24.here hx rfl (pc0 := 27) (pc' := 38) rfl (hb hby d11_27) (by decide) (by decide) ?_
      show Steps p.tables e below (T24.setTop (mkF m 38 #[.val (.ref a1), .val (.ref b1), .val (.int (0 : Int32)), .unset] [(.int (0 : Int32))])) _
      refine XS.istoreN X24.here hx rfl (hb hby d11_38) rfl (l' := #[.val (.ref a1), .val (.ref b1), .val (.int (0 : Int32)), .val (.int (0 : Int32))]) rfl ?_
      show Steps p.tables e below (T24.setTop (mkF m 39 #[.val (.ref a1), .val (.ref b1), .val (.int (0 : Int32)), .val (.int (0 : Int32))] [])) _
      refine XS.aloadN X24.here hx rfl (hb hby d11_39) rfl rfl ?_
      exact k)
  have f28 := f14.keep K17
  have f29 : Arr Z T17.heap ca ccl .char := ⟨K17.2.1 _ _ f15.1 (ninS ne4 nin0), f15.2⟩
  have f30 : Arr Z T17.heap ea ecl .int := ⟨K17.2.1 _ _ f16.1 (ninS ne5 nin0), f16.2⟩
  obtain ⟨T27, h27, X27, e27, E27, A27, D27, -, st27⟩ := newO X24 hx hZ hown (hw _ (List.mem_of_getElem? (i := 112) rfl)) (hw _ (List.mem_of_getElem? (i := 5) rfl)) (hw _ (List.mem_of_getElem? (i := 4) rfl)) e24 (g := (mkF m 40 #[.val (.ref a1), .val (.ref b1), .val (.int (0 : Int32)), .val (.int (0 : Int32))] [(.ref b1)])) rfl (hb hby d11_40) (by decide) (by decide)
  obtain ⟨b27, g27⟩ : ∃ z, z = T17.heap.size := ⟨_, rfl⟩
  rw [← g27] at A27 D27 st27
  have J31 : ∀ t, Steps p.tables e below (T27.setTop (mkF m 43 #[.val (.ref a1), .val (.ref b1), .val (.int (0 : Int32)), .val (.int (0 : Int32))] [(.ref b27), (.ref b1)])) t → Steps p.tables e below (s₁.setTop (entryFrame m #[(.ref a1)] 4)) t := fun t k => J26 t (st27 t k)
  have ne32 : a1 ≠ b27 := Nat.ne_of_lt (Nat.lt_of_lt_of_le f28.lt (Nat.le_of_eq g27.symm))
  have ne33 : ca ≠ b27 := Nat.ne_of_lt (Nat.lt_of_lt_of_le f29.lt (Nat.le_of_eq g27.symm))
  have ne34 : ea ≠ b27 := Nat.ne_of_lt (Nat.lt_of_lt_of_le f30.lt (Nat.le_of_eq g27.symm))
  have ne35 : b1 ≠ b27 := Nat.ne_of_lt (Nat.lt_of_lt_of_le p17_1.lt (Nat.le_of_eq g27.symm))
  have ne36 : el_17 ≠ b27 := Nat.ne_of_lt (Nat.lt_of_lt_of_le p17_5.lt (Nat.le_of_eq g27.symm))
  have ge37 : n0 ≤ b27 := Nat.le_trans Z20 (Nat.le_of_eq g27.symm)
  have sz38 : h0.size ≤ b27 := Nat.le_trans KK21.1 (Nat.le_of_eq g27.symm)
  have Z39 : n0 ≤ h27.size := Nat.le_trans Z20 E27.1
  have KK40 : Keep h0 h27 [] := KK21.ext E27
  have F27_value : Fld Z h27 b27 "java/lang/String" "value" "[B" .null := D27 (Or.inr (hw _ (List.mem_of_getElem? (i := 7) rfl))) (ty := (.array .byte)) (by decide)
  have F27_coder : Fld Z h27 b27 "java/lang/String" "coder" "B" (.int (0 : Int32)) := D27 (Or.inr (hw _ (List.mem_of_getElem? (i := 8) rfl))) (ty := .byte) (by decide)
  have J41 : ∀ t, Steps p.tables e below (T27.setTop (mkF m 45 #[.val (.ref a1), .val (.ref b1), .val (.int (0 : Int32)), .val (.int (0 : Int32))] [(.ref a1), (.ref b27), (.ref b27), (.ref b1)])) t → Steps p.tables e below (s₁.setTop (entryFrame m #[(.ref a1)] 4)) t := fun t k => J31 t (by
      show Steps p.tables e below (T27.setTop (mkF m 43 #[.val (.ref a1), .val (.ref b1), .val (.int (0 : Int32)), .val (.int (0 : Int32))] [(.ref b27), (.ref b1)])) _
      refine XS.dup X27.here hx rfl (hb hby d11_43) rfl rfl ?_
      show Steps p.tables e below (T27.setTop (mkF m 44 #[.val (.ref a1), .val (.ref b1), .val (.int (0 : Int32)), .val (.int (0 : Int32))] [(.ref b27), (.ref b27), (.ref b1)])) _
      refine XS.aloadN X27.here hx rfl (hb hby d11_44) rfl rfl ?_
      exact k)
  have f42 := F_chars_a1.ext E1
  have f43 := f42.keep K17 (ninS ne3 nin0)
  have f44 := f43.ext E27
  obtain ⟨T45, X45, e45, st45⟩ := getF X27 hx hZ hown (host := "") (Or.inl (hw _ (List.mem_of_getElem? (i := 45) rfl))) Via.refl e27 f44 (g := (mkF m 45 #[.val (.ref a1), .val (.ref b1), .val (.int (0 : Int32)), .val (.int (0 : Int32))] [(.ref a1), (.ref b27), (.ref b27), (.ref b1)])) rfl rfl (hb hby d11_45)
  have J46 : ∀ t, Steps p.tables e below (T45.setTop (mkF m 48 #[.val (.ref a1), .val (.ref b1), .val (.int (0 : Int32)), .val (.int (0 : Int32))] [(.ref ca), (.ref b27), (.ref b27), (.ref b1)])) t → Steps p.tables e below (s₁.setTop (entryFrame m #[(.ref a1)] 4)) t := fun t k => J41 t (st45 t k)
  have J47 : ∀ t, Steps p.tables e below (T45.setTop (mkF m 50 #[.val (.ref a1), .val (.ref b1), .val (.int (0 : Int32)), .val (.int (0 : Int32))] [(.ref a1), (.int (0 : Int32)), (.ref ca), (.ref b27), (.ref b27), (.ref b1)])) t → Steps p.tables e below (s₁.setTop (entryFrame m #[(.ref a1)] 4)) t := fun t k => J46 t (by
      show Steps p.tables e below (T45.setTop (mkF m 48 #[.val (.ref a1), .val (.ref b1), .val (.int (0 : Int32)), .val (.int (0 : Int32))] [(.ref ca), (.ref b27), (.ref b27), (.ref b1)])) _
      refine XS.iloadN X45.here hx rfl (hb hby d11_48) rfl ?_
      show Steps p.tables e below (T45.setTop (mkF m 49 #[.val (.ref a1), .val (.ref b1), .val (.int (0 : Int32)), .val (.int (0 : Int32))] [(.int (0 : Int32)), (.ref ca), (.ref b27), (.ref b27), (.ref b1)])) _
      refine XS.aloadN X45.here hx rfl (hb hby d11_49) rfl rfl ?_
      exact k)
  have f48 := F_ends_a1.ext E1
  have f49 := f48.keep K17 (ninS ne3 nin0)
  have f50 := f49.ext E27
  obtain ⟨T51, X51, e51, st51⟩ := getF X45 hx hZ hown (host := "") (Or.inl (hw _ (List.mem_of_getElem? (i := 47) rfl))) Via.refl e45 f50 (g := (mkF m 50 #[.val (.ref a1), .val (.ref b1), .val (.int (0 : Int32)), .val (.int (0 : Int32))] [(.ref a1), (.int (0 : Int32)), (.ref ca), (.ref b27), (.ref b27), (.ref b1)])) rfl rfl (hb hby d11_50)
  have J52 : ∀ t, Steps p.tables e below (T51.setTop (mkF m 53 #[.val (.ref a1), .val (.ref b1), .val (.int (0 : Int32)), .val (.int (0 : Int32))] [(.ref ea), (.int (0 : Int32)), (.ref ca), (.ref b27), (.ref b27), (.ref b1)])) t → Steps p.tables e below (s₁.setTop (entryFrame m #[(.ref a1)] 4)) t := fun t k => J47 t (st51 t k)
  have J53 : ∀ t, Steps p.tables e below (T51.setTop (mkF m 54 #[.val (.ref a1), .val (.ref b1), .val (.int (0 : Int32)), .val (.int (0 : Int32))] [(.int (0 : Int32)), (.ref ea), (.int (0 : Int32)), (.ref ca), (.ref b27), (.ref b27), (.ref b1)])) t → Steps p.tables e below (s₁.setTop (entryFrame m #[(.ref a1)] 4)) t := fun t k => J52 t (by
      show Steps p.tables e below (T51.setTop (mkF m 53 #[.val (.ref a1), .val (.ref b1), .val (.int (0 : Int32)), .val (.int (0 : Int32))] [(.ref ea), (.int (0 : Int32)), (.ref ca), (.ref b27), (.ref b27), (.ref b1)])) _
      refine XS.iloadN X51.here hx rfl (hb hby d11_53) rfl ?_
      exact k)
  have f54 := f30.ext E27
  have J55 : ∀ t, Steps p.tables e below (T51.setTop (mkF m 57 #[.val (.ref a1), .val (.ref b1), .val (.int (0 : Int32)), .val (.int (0 : Int32))] [(.int ((1 : Int32) - (0 : Int32))), (.int (0 : Int32)), (.ref ca), (.ref b27), (.ref b27), (.ref b1)])) t → Steps p.tables e below (s₁.setTop (entryFrame m #[(.ref a1)] 4)) t := fun t k => J53 t (by
      show Steps p.tables e below (T51.setTop (mkF m 54 #[.val (.ref a1), .val (.ref b1), .val (.int (0 : Int32)), .val (.int (0 : Int32))] [(.int (0 : Int32)), (.ref ea), (.int (0 : Int32)), (.ref ca), (.ref b27), (.ref b27), (.ref b1)])) _
      refine X51.iaload hx (j := (0 : Int32)) (v := (.int (1 : Int32))) (by rw [e51]; exact f54.1) (State.isArrayOf_alike hZ.alike f54.2.1) f54.2.2 (own_in hez (by decide) (by decide)) (own_at (by decide) he0) (g := (mkF m 54 #[.val (.ref a1), .val (.ref b1), .val (.int (0 : Int32)), .val (.int (0 : Int32))] [(.int (0 : Int32)), (.ref ea), (.int (0 : Int32)), (.ref ca), (.ref b27), (.ref b27), (.ref b1)])) rfl rfl (hb hby d11_54) _ ?_
      show Steps p.tables e below (T51.setTop (mkF m 55 #[.val (.ref a1), .val (.ref b1), .val (.int (0 : Int32)), .val (.int (0 : Int32))] [(.int (1 : Int32)), (.int (0 : Int32)), (.ref ca), (.ref b27), (.ref b27), (.ref b1)])) _
      refine XS.iloadN X51.here hx rfl (hb hby d11_55) rfl ?_
      show Steps p.tables e below (T51.setTop (mkF m 56 #[.val (.ref a1), .val (.ref b1), .val (.int (0 : Int32)), .val (.int (0 : Int32))] [(.int (0 : Int32)), (.int (1 : Int32)), (.int (0 : Int32)), (.ref ca), (.ref b27), (.ref b27), (.ref b1)])) _
      refine XS.isub X51.here hx rfl (hb hby d11_56) rfl ?_
      exact k)
  have J56 : ∀ t, Steps p.tables e below (T51.setTop (mkF m 57 #[.val (.ref a1), .val (.ref b1), .val (.int (0 : Int32)), .val (.int (0 : Int32))] [(.int (1 : Int32)), (.int (0 : Int32)), (.ref ca), (.ref b27), (.ref b27), (.ref b1)])) t → Steps p.tables e below (s₁.setTop (entryFrame m #[(.ref a1)] 4)) t := fun t k => J55 t (by rw [(by decide : ((1 : Int32) - (0 : Int32)) = (1 : Int32))]; exact k)
  have f57 := f28.ext E27
  have f58 := f29.ext E27
  have f59 := p17_1.ext E27
  have f60 := p17_5.ext E27
  have f61 := O.ext E1
  have f62 := f61.keep K17 (allS ge6 all0)
  have f63 := f62.ext E27
  obtain ⟨_, _, ⟨T64, L64, k64, n64⟩, -, X64, ⟨Lc64, hQ64, l64, y64, z64⟩, st64⟩ := X51.specialBack hx (y := (⟨"java/lang/String", "<init>", "([CII)V"⟩ : MethodName)) rfl hown (mvT hZ (hw _ (List.mem_of_getElem? (i := 113) rfl))) (mvT hZ (hw _ (List.mem_of_getElem? (i := 114) rfl))) (mvT hZ (hw _ (List.mem_of_getElem? (i := 115) rfl))) (by decide) (backOf (W := 2) (rm15L l Z a0 hw [] b27 ca ccl ch .null (.int (0 : Int32)) cs fm h27 n0 Z39 A27 ge37 F27_value F27_coder f58 (by assumption) (by assumption) (by assumption) f63 Zs_COMPACT_STRINGS (by assumption) (Ne.symm ne33) Zs_SIOOBE_FORMATTER (by assumption)) hZ (hw _ (List.mem_of_getElem? (i := 115) rfl)) (hw _ (List.mem_of_getElem? (i := 4) rfl)) (by decide) (by decide)) (g := (mkF m 57 #[.val (.ref a1), .val (.ref b1), .val (.int (0 : Int32)), .val (.int (0 : Int32))] [(.int (1 : Int32)), (.int (0 : Int32)), (.ref ca), (.ref b27), (.ref b27), (.ref b1)])) rfl (by rw [hml]; rfl) (Steps.refl _) (a := b27) (argsL := [(.ref ca), (.int (0 : Int32)), (.int (1 : Int32))]) (rest := [(.ref b27), (.ref b1)]) (lenOf pd_19 rfl) rfl (by show 2 * 0 + _ ≤ _; exact Nat.le_of_eq rfl) (hb hby d11_57) (fun _ _ => ⟨rfl, e51, (by decide : 3 + 1 ≤ _), (by decide : 8 + 1 ≤ _)⟩)
  dsimp only [Pt.U, Pt.locs, Pt.cells, Pt.slots] at X64 l64 y64 z64 st64 hQ64
  subst y64 z64
  obtain ⟨ba_64, bcl_64, rfl, Nq64, K64, p64_1, p64_2, p64_3, p64_4, p64_5, p64_6, p64_7⟩ := hQ64
  have N65 : Fr n0 L64 := by rw [l64]; exact Fr.app N18 Nq64
  have J66 : ∀ t, Steps p.tables e below (T64.setTop (mkF m 60 #[.val (.ref a1), .val (.ref b1), .val (.int (0 : Int32)), .val (.int (0 : Int32))] [(.ref b27), (.ref b1)])) t → Steps p.tables e below (s₁.setTop (entryFrame m #[(.ref a1)] 4)) t := fun t k => J56 t (st64.trans k)
  have Z67 : n0 ≤ T64.heap.size := Nat.le_trans Z39 K64.1
  have KK68 : Keep h0 T64.heap [] := KK40.trans K64 (allS (Or.inr sz38) all0)
  have f69 := f59.keep K64
  have f70 : Arr Z T64.heap el_17 lcl_17 (.object "java/lang/Object") := ⟨K64.2.1 _ _ f60.1 (ninS ne36 nin0), f60.2⟩
  have f71 := p17_3.ext E27
  have f72 := f71.keep K64 (ninS ne35 nin0)
  have f73 := p17_4.ext E27
  have f74 := f73.keep K64 (ninS ne35 nin0)
  have f75 := p17_2.ext E27
  have f76 := f75.keep K64 (ninS ne35 nin0)
  obtain ⟨cq77, kq77, q77a, q77b, q77c⟩ := isOf hZ rfl f69
  obtain ⟨_, _, ⟨T77, L77, k77, n77⟩, -, X77, ⟨Lc77, hQ77, l77, y77, z77⟩, st77⟩ := X64.interfaceBack hx (xi := (⟨"java/util/List", "add", "(Ljava/lang/Object;)Z"⟩ : MethodName)) (y := (⟨"java/util/ArrayList", "add", "(Ljava/lang/Object;)Z"⟩ : MethodName)) hown (mvT hZ (hw _ (List.mem_of_getElem? (i := 145) rfl))) (mvT hZ (hw _ (List.mem_of_getElem? (i := 146) rfl))) (mvT hZ (hw _ (List.mem_of_getElem? (i := 147) rfl))) (mvT hZ (hw _ (List.mem_of_getElem? (i := 148) rfl))) (mvT hZ (hw _ (List.mem_of_getElem? (i := 149) rfl))) (mvT hZ (hw _ (List.mem_of_getElem? (i := 150) rfl))) (mvT hZ (hw _ (List.mem_of_getElem? (i := 151) rfl))) (mvT hZ (hw _ (List.mem_of_getElem? (i := 152) rfl))) (by decide) (backOf (W := 0) (rm23 l Z a0 hw [] b1 b27 el_17 lcl_17 (0 : Int32) T64.heap n0 Z67 f69 ge6 f70 p17_6 p17_7 p17_8 p64_1 (Ne.symm (Nat.ne_of_lt (Nat.lt_of_lt_of_le A1.lt p17_9))) (Ne.symm ne35) (Ne.symm ne36) f72 f74 f76) hZ (hw _ (List.mem_of_getElem? (i := 153) rfl)) (hw _ (List.mem_of_getElem? (i := 89) rfl)) (by decide) (by decide)) q77a q77b q77c (g := (mkF m 60 #[.val (.ref a1), .val (.ref b1), .val (.int (0 : Int32)), .val (.int (0 : Int32))] [(.ref b27), (.ref b1)])) rfl (by rw [hml]; rfl) (Steps.refl _) (argsL := [(.ref b27)]) (rest := []) (lenOf pd_20 rfl) rfl (by show 2 * 0 + _ ≤ _; exact Nat.le_of_eq rfl) (hb hby d11_60) (fun _ _ => ⟨rfl, rfl, (by decide : 4 + 0 ≤ _), (by decide : 9 + 0 ≤ _)⟩)
  dsimp only [Pt.U, Pt.locs, Pt.cells, Pt.slots] at X77 l77 y77 z77 st77 hQ77
  subst y77 z77
  obtain ⟨lcl'_77, rfl, Nq77, K77, p77_1, p77_2, p77_3, p77_4, p77_5, p77_6⟩ := hQ77
  have N78 : Fr n0 L77 := by rw [l77]; exact Fr.app N65 Nq77
  have J79 : ∀ t, Steps p.tables e below (T77.setTop (mkF m 65 #[.val (.ref a1), .val (.ref b1), .val (.int (0 : Int32)), .val (.int (0 : Int32))] [(.int (1 : Int32))])) t → Steps p.tables e below (s₁.setTop (entryFrame m #[(.ref a1)] 4)) t := fun t k => J66 t (st77.trans k)
  have Z80 : n0 ≤ T77.heap.size := Nat.le_trans Z67 K77.1
  have KK81 : Keep h0 T77.heap [] := KK68.trans K77 (allS (Or.inr sz7) (allS (Or.inr (Nat.le_trans KK9.1 p17_9)) all0))
  have J82 : ∀ t, Steps p.tables e below (T77.setTop (mkF m 16 #[.val (.ref a1), .val (.ref b1), .val (.int ((0 : Int32) + (1 : Int32))), .val (.int (0 : Int32))] [(.ref a1), (.int ((0 : Int32) + (1 : Int32)))])) t → Steps p.tables e below (s₁.setTop (entryFrame m #[(.ref a1)] 4)) t := fun t k => J79 t (by
      show Steps p.tables e below (T77.setTop (mkF m 65 #[.val (.ref a1), .val (.ref b1), .val (.int (0 : Int32)), .val (.int (0 : Int32))] [(.int (1 : Int32))])) _
      refine XS.pop X77.here hx rfl (hb hby d11_65) rfl rfl ?_
      show Steps p.tables e below (T77.setTop (mkF m 66 #[.val (.ref a1), .val (.ref b1), .val (.int (0 : Int32)), .val (.int (0 : Int32))] [])) _
      refine XS.iinc X77.here hx rfl (hb hby d11_66) rfl (l' := #[.val (.ref a1), .val (.ref b1), .val (.int ((0 : Int32) + (1 : Int32))), .val (.int (0 : Int32))]) rfl ?_
      show Steps p.tables e below (T77.setTop (mkF m 69 #[.val (.ref a1), .val (.ref b1), .val (.int ((0 : Int32) + (1 : Int32))), .val (.int (0 : Int32))] [])) _
      refine XS.goto X77.here hx rfl (pc0 := 69) (pc' := 14) rfl (hb hby d11_69) (by decide) (by decide) ?_
      show Steps p.tables e below (T77.setTop (mkF m 14 #[.val (.ref a1), .val (.ref b1), .val (.int ((0 : Int32) + (1 : Int32))), .val (.int (0 : Int32))] [])) _
      refine XS.iloadN X77.here hx rfl (hb hby d11_14) rfl ?_
      show Steps p.tables e below (T77.setTop (mkF m 15 #[.val (.ref a1), .val (.ref b1), .val (.int ((0 : Int32) + (1 : Int32))), .val (.int (0 : Int32))] [(.int ((0 : Int32) + (1 : Int32)))])) _
      refine XS.aloadN X77.here hx rfl (hb hby d11_15) rfl rfl ?_
      exact k)
  have f83 := f23.ext E27
  have f84 := f83.keep K64 (ninS ne32 nin0)
  have f85 := f84.keep K77 (ninS ne3 (ninS (Nat.ne_of_lt (Nat.lt_of_lt_of_le f14.lt p17_9)) nin0))
  obtain ⟨T86, X86, e86, st86⟩ := getF X77 hx hZ hown (host := "") (Or.inl (hw _ (List.mem_of_getElem? (i := 49) rfl))) Via.refl rfl f85 (g := (mkF m 16 #[.val (.ref a1), .val (.ref b1), .val (.int ((0 : Int32) + (1 : Int32))), .val (.int (0 : Int32))] [(.ref a1), (.int ((0 : Int32) + (1 : Int32)))])) rfl rfl (hb hby d11_16)
  have J87 : ∀ t, Steps p.tables e below (T86.setTop (mkF m 19 #[.val (.ref a1), .val (.ref b1), .val (.int ((0 : Int32) + (1 : Int32))), .val (.int (0 : Int32))] [(.int (1 : Int32)), (.int ((0 : Int32) + (1 : Int32)))])) t → Steps p.tables e below (s₁.setTop (entryFrame m #[(.ref a1)] 4)) t := fun t k => J82 t (st86 t k)
  have J88 : ∀ t, Steps p.tables e below (T86.setTop (mkF m 73 #[.val (.ref a1), .val (.ref b1), .val (.int ((0 : Int32) + (1 : Int32))), .val (.int (0 : Int32))] [(.ref b1)])) t → Steps p.tables e below (s₁.setTop (entryFrame m #[(.ref a1)] 4)) t := fun t k => J87 t (by
      show Steps p.tables e below (T86.setTop (mkF m 19 #[.val (.ref a1), .val (.ref b1), .val (.int ((0 : Int32) + (1 : Int32))), .val (.int (0 : Int32))] [(.int (1 : Int32)), (.int ((0 : Int32) + (1 : Int32)))])) _
      refine XS.icmpYes X86.here hx rfl (pc0 := 19) (pc' := 72) rfl (hb hby d11_19) rfl (flt (by decide)).2.1 (by decide) (by decide) ?_
      show Steps p.tables e below (T86.setTop (mkF m 72 #[.val (.ref a1), .val (.ref b1), .val (.int ((0 : Int32) + (1 : Int32))), .val (.int (0 : Int32))] [])) _
      refine XS.aloadN X86.here hx rfl (hb hby d11_72) rfl rfl ?_
      exact k)
  obtain ⟨fs, hr, hrun, hended, hW, hsame⟩ := X86.leave (v := some (.ref b1)) (fun h => by rw [Bd.returns] at h; cases h)
  have f89 := p64_1.keep K77
  have f90 := p64_2.keep K77 (ninS (Ne.symm ne35) (ninS (Ne.symm ne36) nin0))
  have f91 := p64_3.keep K77 (ninS (Ne.symm ne35) (ninS (Ne.symm ne36) nin0))
  have f92 : Arr Z T77.heap ba_64 bcl_64 .byte := ⟨K77.2.1 _ _ p64_4.1 (ninS (Ne.symm (Nat.ne_of_lt (Nat.lt_of_lt_of_le f59.lt p64_7))) (ninS (Ne.symm (Nat.ne_of_lt (Nat.lt_of_lt_of_le f60.lt p64_7))) nin0)), p64_4.2⟩
  refine ⟨_, _, J88 _ ?_, hrun, hended, _, _, rfl, ?_, ⟨_, rfl⟩, hW, hsame.mono (by decide) (by decide)⟩
  · show Steps p.tables e below (T86.setTop (mkF m 73 #[.val (.ref a1), .val (.ref b1), .val (.int ((0 : Int32) + (1 : Int32))), .val (.int (0 : Int32))] [(.ref b1)])) _
    jvm_step X86.here [X86.here.top, hx, (hb hby d11_73), X86.method', Bd.returns, Value.isRef, FieldType.isReference]
    first | (intro acts; rw [hr _ acts rfl rfl rfl]) | rw [hr _ _ rfl rfl rfl]
    exact Steps.refl _
  · show Q11L Z a1 ca ccl ch ea ecl cs fm h0 n0 _ T86.heap _
    rw [e86]
    exact ⟨b1, el_17, lcl'_77, b27, ba_64, bcl_64, rfl, N78, KK81, p77_1, p77_3, p77_2, p77_4, p77_6, p77_5, f89, f90, f91, f92, p64_5, p64_6⟩
theorem d31_0 : decode jdk_43_method_3_code 0 = .ok (.iload_n 0, 1) := by decide +kernel
theorem d31_1 : decode jdk_43_method_3_code 1 = .ok (.sipush 255, 3) := by decide +kernel
theorem d31_4 : decode jdk_43_method_3_code 4 = .ok (.if_icmp .gt 7, 3) := by decide +kernel
theorem d31_7 : decode jdk_43_method_3_code 7 = .ok (.iconst 1, 1) := by decide +kernel
theorem d31_8 : decode jdk_43_method_3_code 8 = .ok (.goto 4, 3) := by decide +kernel
theorem d31_12 : decode jdk_43_method_3_code 12 = .ok (.ireturn, 1) := by decide +kernel
theorem pn_31 : plainName "java/lang/StringLatin1" = true := by first | (simp [plainName, overriddenIn]; done) | decide +kernel
theorem ef_31_x (m : MethodId) (x0 : Int32) : entryFrame m #[(.int x0)] 1 = mkF m 0 #[.val (.int x0)] [] := by first | (simp [entryFrame, mkF, argsToLocals, Value.category]; done) | rfl
def Q31L (Z : State) (ch : Int32) (h0 : Heap) (n0 : Nat) (v : Option Value) (h : Heap) (L : List Loc) : Prop := v = some (.int (1 : Int32)) ∧ Fr n0 L ∧ h = h0
set_option maxRecDepth 65536 in
set_option maxHeartbeats 40000000 in
theorem rm31L (l : Launch) (Z : State) (a0 : Array Value) (hw : ∀ d ∈ tables_1, d.before a0 Z = true) (ws : List Jvm.Cond) (ch : Int32) (h0 : Heap) (n0 : Nat) (Z0 : n0 ≤ h0.size) (hk : ¬ (255 : Int32) < ch) :
    MetFree l (⟨"java/lang/StringLatin1", "canEncode", "(C)Z"⟩ : MethodName) (head1 (Jvm.Cond.code (⟨"java/lang/StringLatin1", "canEncode", "(C)Z"⟩ : MethodName) jdk_43_method_3_code 1 (some .boolean) :: ws) ({ frames := 0, cells := 0, slots := 0, locals := 0 } : Room)) (fun a U => a = #[(.int ch)] ∧ Z.Warmed39 U.vm ∧ U.heap = h0) (fun _ _ _ _ _ => True) (fun _ U o U' => ∃ v L, o = .returned v ∧ Q31L Z ch h0 n0 v U'.heap L ∧ FrameEnd U o U' L ({ frames := 0, cells := 0, slots := 0, locals := 0 } : Room).cells ({ frames := 0, cells := 0, slots := 0, locals := 0 } : Room).slots) := by
  refine MetFree.of_bodySF (plainFor_of_name pn_31) hisR ?_
  intro p e s m args below meth c s₁ Bd hml0 hP hK
  obtain ⟨rfl, hZ, hh⟩ := hP
  have hx := Bd.exec
  have hby := Bd.bytes
  have hml : c.maxLocals = 1 := hml0
  have hown : s.vm.findClass "java/lang/StringLatin1" = some m.cls := findClass_of_methodNamed Bd.named
  have hnm := (name_of_methodNamed Bd.named Bd.method).1
  have X0 : Stand p l e ({ frames := 0, cells := 0, slots := 0, locals := 0 } : Room) s m #[(.int ch)] below meth c s₁ [] 0 0 := Stand.of_body Bd
  have e0 : s₁.heap = h0 := by rw [← hh, Bd.state]; rfl
  have N0 := Fr.nil n0
  have pre0 : ∀ t, Steps p.tables e below (s₁.setTop (mkF m 0 #[.val (.int ch)] [])) t → Steps p.tables e below (s₁.setTop (entryFrame m #[(.int ch)] 1)) t := fun t k => castTop (ef_31_x m ch) k
  have J1 : ∀ t, Steps p.tables e below (s₁.setTop (mkF m 12 #[.val (.int ch)] [(.int (1 : Int32))])) t → Steps p.tables e below (s₁.setTop (entryFrame m #[(.int ch)] 1)) t := fun t k => pre0 t (by
      show Steps p.tables e below (s₁.setTop (mkF m 0 #[.val (.int ch)] [])) _
      refine XS.iloadN X0.here hx rfl (hb hby d31_0) rfl ?_
      show Steps p.tables e below (s₁.setTop (mkF m 1 #[.val (.int ch)] [(.int ch)])) _
      refine XS.sipush X0.here hx rfl (hb hby d31_1) ?_
      show Steps p.tables e below (s₁.setTop (mkF m 4 #[.val (.int ch)] [(.int (255 : Int32)), (.int ch)])) _
      refine XS.icmpNo X0.here hx rfl (hb hby d31_4) rfl (flt hk).2.2.1 ?_
      show Steps p.tables e below (s₁.setTop (mkF m 7 #[.val (.int ch)] [])) _
      refine XS.iconst X0.here hx rfl (hb hby d31_7) ?_
      show Steps p.tables e below (s₁.setTop (mkF m 8 #[.val (.int ch)] [(.int (1 : Int32))])) _
      refine XS.goto X0.here hx rfl (pc0 := 8) (pc' := 12) rfl (hb hby d31_8) (by decide) (by decide) ?_
      exact k)
  obtain ⟨fs, hr, hrun, hended, hW, hsame⟩ := X0.leave (v := some (.int (1 : Int32))) (fun h => by rw [Bd.returns] at h; cases h)
  refine ⟨_, _, J1 _ ?_, hrun, hended, _, _, rfl, ?_, ⟨_, rfl⟩, hW, hsame.mono (by decide) (by decide)⟩
  · show Steps p.tables e below (s₁.setTop (mkF m 12 #[.val (.int ch)] [(.int (1 : Int32))])) _
    exact retN X0 hx (t := .boolean) Bd.returns (by simp) (hb hby d31_12) hr
  · show Q31L Z ch h0 n0 _ s₁.heap _
    rw [e0]
    exact ⟨rfl, N0, rfl⟩
theorem d32_0 : decode jdk_43_method_46_code 0 = .ok (.iconst 1, 1) := by decide +kernel
theorem d32_1 : decode jdk_43_method_46_code 1 = .ok (.newarray .byte, 2) := by decide +kernel
theorem d32_3 : decode jdk_43_method_46_code 3 = .ok (.dup, 1) := by decide +kernel
theorem d32_4 : decode jdk_43_method_46_code 4 = .ok (.iconst 0, 1) := by decide +kernel
theorem d32_5 : decode jdk_43_method_46_code 5 = .ok (.iload_n 0, 1) := by decide +kernel
theorem d32_6 : decode jdk_43_method_46_code 6 = .ok (.i2b, 1) := by decide +kernel
theorem d32_7 : decode jdk_43_method_46_code 7 = .ok (.bastore, 1) := by decide +kernel
theorem d32_8 : decode jdk_43_method_46_code 8 = .ok (.areturn, 1) := by decide +kernel
theorem pn_32 : plainName "java/lang/StringLatin1" = true := by first | (simp [plainName, overriddenIn]; done) | decide +kernel
theorem ef_32_x (m : MethodId) (x0 : Int32) : entryFrame m #[(.int x0)] 1 = mkF m 0 #[.val (.int x0)] [] := by first | (simp [entryFrame, mkF, argsToLocals, Value.category]; done) | rfl
def Q32 (Z : State) (ch : Int32) (h0 : Heap) (n0 : Nat) (v : Option Value) (h : Heap) (L : List Loc) : Prop := ∃ (ba : Addr) (bcl : Cell), v = some (.ref ba) ∧ Fr n0 L ∧ Keep h0 h [] ∧ (Arr Z h ba bcl .byte) ∧ (bcl.slots.size = 1) ∧ (bcl.slots[0]? = some (.int (nar .byte (ch.toInt8.toInt32)))) ∧ (n0 ≤ ba) ∧ (h0.size ≤ ba)
set_option maxRecDepth 65536 in
set_option maxHeartbeats 40000000 in
theorem rm32 (l : Launch) (Z : State) (a0 : Array Value) (hw : ∀ d ∈ tables_1, d.before a0 Z = true) (ws : List Jvm.Cond) (ch : Int32) (h0 : Heap) (n0 : Nat) (Z0 : n0 ≤ h0.size) :
    MetFree l (⟨"java/lang/StringLatin1", "toBytes", "(C)[B"⟩ : MethodName) (head1 (Jvm.Cond.code (⟨"java/lang/StringLatin1", "toBytes", "(C)[B"⟩ : MethodName) jdk_43_method_46_code 1 (some (.array .byte)) :: ws) ({ frames := 0, cells := 1, slots := 1, locals := 0 } : Room)) (fun a U => a = #[(.int ch)] ∧ Z.Warmed39 U.vm ∧ U.heap = h0) (fun _ _ _ _ _ => True) (fun _ U o U' => ∃ v L, o = .returned v ∧ Q32 Z ch h0 n0 v U'.heap L ∧ FrameEnd U o U' L ({ frames := 0, cells := 1, slots := 1, locals := 0 } : Room).cells ({ frames := 0, cells := 1, slots := 1, locals := 0 } : Room).slots) := by
  refine MetFree.of_bodySF (plainFor_of_name pn_32) hisR ?_
  intro p e s m args below meth c s₁ Bd hml0 hP hK
  obtain ⟨rfl, hZ, hh⟩ := hP
  have hx := Bd.exec
  have hby := Bd.bytes
  have hml : c.maxLocals = 1 := hml0
  have hown : s.vm.findClass "java/lang/StringLatin1" = some m.cls := findClass_of_methodNamed Bd.named
  have hnm := (name_of_methodNamed Bd.named Bd.method).1
  have X0 : Stand p l e ({ frames := 0, cells := 1, slots := 1, locals := 0 } : Room) s m #[(.int ch)] below meth c s₁ [] 0 0 := Stand.of_body Bd
  have e0 : s₁.heap = h0 := by rw [← hh, Bd.state]; rfl
  have N0 := Fr.nil n0
  have pre0 : ∀ t, Steps p.tables e below (s₁.setTop (mkF m 0 #[.val (.int ch)] [])) t → Steps p.tables e below (s₁.setTop (entryFrame m #[(.int ch)] 1)) t := fun t k => castTop (ef_32_x m ch) k
  have J1 : ∀ t, Steps p.tables e below (s₁.setTop (mkF m 1 #[.val (.int ch)] [(.int (1 : Int32))])) t → Steps p.tables e below (s₁.setTop (entryFrame m #[(.int ch)] 1)) t := fun t k => pre0 t (by
      show Steps p.tables e below (s₁.setTop (mkF m 0 #[.val (.int ch)] [])) _
      refine XS.iconst X0.here hx rfl (hb hby d32_0) ?_
      exact k)
  obtain ⟨T2, h2, k2, X2, e2, E2, A2, st2⟩ := newP X0 hx hZ (hw _ (List.mem_of_getElem? (i := 6) rfl)) e0 (g := (mkF m 1 #[.val (.int ch)] [(.int (1 : Int32))])) rfl (hb hby d32_1) rfl (by decide) (cap := 1) (by decide) (by decide) (by decide) (by decide)
  obtain ⟨b2, g2⟩ : ∃ z, z = h0.size := ⟨_, rfl⟩
  rw [← g2] at A2 st2
  obtain ⟨cl2, hcl2⟩ : ∃ z, z = newA k2 .byte (1 : Int32) := ⟨_, rfl⟩
  have Aw2 : Arr Z h2 b2 cl2 .byte := by rw [hcl2]; exact A2
  have J3 : ∀ t, Steps p.tables e below (T2.setTop (mkF m 3 #[.val (.int ch)] [(.ref b2)])) t → Steps p.tables e below (s₁.setTop (entryFrame m #[(.int ch)] 1)) t := fun t k => J1 t (st2 t k)
  have ge4 : n0 ≤ b2 := Nat.le_trans Z0 (Nat.le_of_eq g2.symm)
  have sz5 : h0.size ≤ b2 := Nat.le_trans (Keep.refl h0 []).1 (Nat.le_of_eq g2.symm)
  have Z6 : n0 ≤ h2.size := Nat.le_trans Z0 E2.1
  have KK7 : Keep h0 h2 [] := (Keep.refl h0 []).ext E2
  have hS2 : cl2.slots.size = 1 := by rw [hcl2, sz_new]; decide
  have J8 : ∀ t, Steps p.tables e below (T2.setTop (mkF m 7 #[.val (.int ch)] [(.int (ch.toInt8.toInt32)), (.int (0 : Int32)), (.ref b2), (.ref b2)])) t → Steps p.tables e below (s₁.setTop (entryFrame m #[(.int ch)] 1)) t := fun t k => J3 t (by
      show Steps p.tables e below (T2.setTop (mkF m 3 #[.val (.int ch)] [(.ref b2)])) _
      refine XS.dup X2.here hx rfl (hb hby d32_3) rfl rfl ?_
      show Steps p.tables e below (T2.setTop (mkF m 4 #[.val (.int ch)] [(.ref b2), (.ref b2)])) _
      refine XS.iconst X2.here hx rfl (hb hby d32_4) ?_
      show Steps p.tables e below (T2.setTop (mkF m 5 #[.val (.int ch)] [(.int (0 : Int32)), (.ref b2), (.ref b2)])) _
      refine XS.iloadN X2.here hx rfl (hb hby d32_5) rfl ?_
      show Steps p.tables e below (T2.setTop (mkF m 6 #[.val (.int ch)] [(.int ch), (.int (0 : Int32)), (.ref b2), (.ref b2)])) _
      refine XS.i2b X2.here hx rfl (hb hby d32_6) rfl ?_
      exact k)
  obtain ⟨T9, h9, X9, e9, W9, st9⟩ := stB X2 hx hZ e2 Aw2 (j := (0 : Int32)) (own_in hS2 (by decide) (by decide)) (g := (mkF m 7 #[.val (.int ch)] [(.int (ch.toInt8.toInt32)), (.int (0 : Int32)), (.ref b2), (.ref b2)])) rfl rfl (hb hby d32_7)
  have J10 : ∀ t, Steps p.tables e below (T9.setTop (mkF m 8 #[.val (.int ch)] [(.ref b2)])) t → Steps p.tables e below (s₁.setTop (entryFrame m #[(.int ch)] 1)) t := fun t k => J8 t (st9 t k)
  have Z11 : n0 ≤ h9.size := Nat.le_trans Z6 (Keep.of_wr W9).1
  have KK12 : Keep h0 h9 [] := KK7.wr W9 (Or.inr sz5)
  have N13 := Fr.snoc X9 N0 ge4
  obtain ⟨cl9, hcl9⟩ : ∃ z, z = cl2.setSlot ((0 : Int32)).toNatClampNeg (.int (nar .byte (ch.toInt8.toInt32))) := ⟨_, rfl⟩
  have Aw9 : Arr Z h9 b2 cl9 .byte := by rw [hcl9]; exact Aw2.same W9
  obtain ⟨fs, hr, hrun, hended, hW, hsame⟩ := X9.leave (v := some (.ref b2)) (fun h => by rw [Bd.returns] at h; cases h)
  refine ⟨_, _, J10 _ ?_, hrun, hended, _, _, rfl, ?_, ⟨_, rfl⟩, hW, hsame.mono (by decide) (by decide)⟩
  · show Steps p.tables e below (T9.setTop (mkF m 8 #[.val (.int ch)] [(.ref b2)])) _
    jvm_step X9.here [X9.here.top, hx, (hb hby d32_8), X9.method', Bd.returns, Value.isRef, FieldType.isReference]
    first | (intro acts; rw [hr _ acts rfl rfl rfl]) | rw [hr _ _ rfl rfl rfl]
    exact Steps.refl _
  · show Q32 Z ch h0 n0 _ T9.heap _
    rw [e9]
    exact ⟨b2, cl9, rfl, N13, KK12, Aw9, (own_ssz hcl9 hS2), (own_same hcl9 (by decide) (by rw [hS2]; decide)), ge4, sz5⟩
theorem d33_0 : decode jdk_42_method_151_code 0 = .ok (.aload_n 0, 1) := by decide +kernel
theorem d33_1 : decode jdk_42_method_151_code 1 = .ok (.invokespecial 1, 3) := by decide +kernel
theorem d33_4 : decode jdk_42_method_151_code 4 = .ok (.aload_n 0, 1) := by decide +kernel
theorem d33_5 : decode jdk_42_method_151_code 5 = .ok (.aload_n 1, 1) := by decide +kernel
theorem d33_6 : decode jdk_42_method_151_code 6 = .ok (.putfield 9, 3) := by decide +kernel
theorem d33_9 : decode jdk_42_method_151_code 9 = .ok (.aload_n 0, 1) := by decide +kernel
theorem d33_10 : decode jdk_42_method_151_code 10 = .ok (.iload_n 2, 1) := by decide +kernel
theorem d33_11 : decode jdk_42_method_151_code 11 = .ok (.putfield 15, 3) := by decide +kernel
theorem d33_14 : decode jdk_42_method_151_code 14 = .ok (.return_, 1) := by decide +kernel
theorem pn_33 : plainName "java/lang/String" = true := by first | (simp [plainName, overriddenIn]; done) | decide +kernel
theorem ef_33_xxx (m : MethodId) (x0 : Addr) (x1 : Addr) (x2 : Int32) : entryFrame m #[(.ref x0), (.ref x1), (.int x2)] 3 = mkF m 0 #[.val (.ref x0), .val (.ref x1), .val (.int x2)] [] := by first | (simp [entryFrame, mkF, argsToLocals, Value.category]; done) | rfl
def Q33L (Z : State) (a1 : Addr) (ba : Addr) (u1 : Value) (u2 : Value) (h0 : Heap) (n0 : Nat) (v : Option Value) (h : Heap) (L : List Loc) : Prop := v = none ∧ Fr n0 L ∧ Keep h0 h [a1] ∧ (Exa Z h a1 "java/lang/String") ∧ (Fld Z h a1 "java/lang/String" "value" "[B" (.ref ba)) ∧ (Fld Z h a1 "java/lang/String" "coder" "B" (.int (0 : Int32)))
set_option maxRecDepth 65536 in
set_option maxHeartbeats 40000000 in
theorem rm33L (l : Launch) (Z : State) (a0 : Array Value) (hw : ∀ d ∈ tables_1, d.before a0 Z = true) (ws : List Jvm.Cond) (a1 : Addr) (ba : Addr) (u1 : Value) (u2 : Value) (h0 : Heap) (n0 : Nat) (Z0 : n0 ≤ h0.size) (E_a1 : Exa Z h0 a1 "java/lang/String") (g_a1 : n0 ≤ a1) (F_value_a1 : Fld Z h0 a1 "java/lang/String" "value" "[B" u1) (F_coder_a1 : Fld Z h0 a1 "java/lang/String" "coder" "B" u2) :
    MetFree l (⟨"java/lang/String", "<init>", "([BB)V"⟩ : MethodName) (head1 (Jvm.Cond.code (⟨"java/lang/String", "<init>", "([BB)V"⟩ : MethodName) jdk_42_method_151_code 3 none :: ws) ({ frames := 1, cells := 0, slots := 0, locals := 12 } : Room)) (fun a U => a = #[(.ref a1), (.ref ba), (.int (0 : Int32))] ∧ Z.Warmed39 U.vm ∧ U.heap = h0) (fun _ _ _ _ _ => True) (fun _ U o U' => ∃ v L, o = .returned v ∧ Q33L Z a1 ba u1 u2 h0 n0 v U'.heap L ∧ FrameEnd U o U' L ({ frames := 1, cells := 0, slots := 0, locals := 12 } : Room).cells ({ frames := 1, cells := 0, slots := 0, locals := 12 } : Room).slots) := by
  refine MetFree.of_bodySF (plainFor_of_name pn_33) hisR ?_
  intro p e s m args below meth c s₁ Bd hml0 hP hK
  obtain ⟨rfl, hZ, hh⟩ := hP
  have hx := Bd.exec
  have hby := Bd.bytes
  have hml : c.maxLocals = 3 := hml0
  have hown : s.vm.findClass "java/lang/String" = some m.cls := findClass_of_methodNamed Bd.named
  have hnm := (name_of_methodNamed Bd.named Bd.method).1
  have X0 : Stand p l e ({ frames := 1, cells := 0, slots := 0, locals := 12 } : Room) s m #[(.ref a1), (.ref ba), (.int (0 : Int32))] below meth c s₁ [] 0 0 := Stand.of_body Bd
  have e0 : s₁.heap = h0 := by rw [← hh, Bd.state]; rfl
  have N0 := Fr.nil n0
  have pre0 : ∀ t, Steps p.tables e below (s₁.setTop (mkF m 0 #[.val (.ref a1), .val (.ref ba), .val (.int (0 : Int32))] [])) t → Steps p.tables e below (s₁.setTop (entryFrame m #[(.ref a1), (.ref ba), (.int (0 : Int32))] 3)) t := fun t k => castTop (ef_33_xxx m a1 ba (0 : Int32)) k
  have J1 : ∀ t, Steps p.tables e below (s₁.setTop (mkF m 1 #[.val (.ref a1), .val (.ref ba), .val (.int (0 : Int32))] [(.ref a1)])) t → Steps p.tables e below (s₁.setTop (entryFrame m #[(.ref a1), (.ref ba), (.int (0 : Int32))] 3)) t := fun t k => pre0 t (by
      show Steps p.tables e below (s₁.setTop (mkF m 0 #[.val (.ref a1), .val (.ref ba), .val (.int (0 : Int32))] [])) _
      refine XS.aloadN X0.here hx rfl (hb hby d33_0) rfl rfl ?_
      exact k)
  obtain ⟨T2, X2, e2, st2⟩ := initO X0 hx hZ hown (hw _ (List.mem_of_getElem? (i := 131) rfl)) (hw _ (List.mem_of_getElem? (i := 26) rfl)) (hw _ (List.mem_of_getElem? (i := 27) rfl)) e0 (g := (mkF m 1 #[.val (.ref a1), .val (.ref ba), .val (.int (0 : Int32))] [(.ref a1)])) rfl (by rw [hml]; rfl) rfl (hb hby d33_1) (by decide) (W := 0) (by show 2 * 0 + _ ≤ _; exact Nat.le_of_eq rfl) (by decide)
  have J3 : ∀ t, Steps p.tables e below (T2.setTop (mkF m 4 #[.val (.ref a1), .val (.ref ba), .val (.int (0 : Int32))] [])) t → Steps p.tables e below (s₁.setTop (entryFrame m #[(.ref a1), (.ref ba), (.int (0 : Int32))] 3)) t := fun t k => J1 t (st2 t k)
  have J4 : ∀ t, Steps p.tables e below (T2.setTop (mkF m 6 #[.val (.ref a1), .val (.ref ba), .val (.int (0 : Int32))] [(.ref ba), (.ref a1)])) t → Steps p.tables e below (s₁.setTop (entryFrame m #[(.ref a1), (.ref ba), (.int (0 : Int32))] 3)) t := fun t k => J3 t (by
      show Steps p.tables e below (T2.setTop (mkF m 4 #[.val (.ref a1), .val (.ref ba), .val (.int (0 : Int32))] [])) _
      refine XS.aloadN X2.here hx rfl (hb hby d33_4) rfl rfl ?_
      show Steps p.tables e below (T2.setTop (mkF m 5 #[.val (.ref a1), .val (.ref ba), .val (.int (0 : Int32))] [(.ref a1)])) _
      refine XS.aloadN X2.here hx rfl (hb hby d33_5) rfl rfl ?_
      exact k)
  obtain ⟨T5, h5, X5, e5, W5, st5⟩ := putF X2 hx hZ hown (host := "") (Or.inl (hw _ (List.mem_of_getElem? (i := 144) rfl))) Via.refl e2 F_value_a1 E_a1 (Or.inr ⟨(hw _ (List.mem_of_getElem? (i := 7) rfl)), rfl, hnm⟩) (hw _ (List.mem_of_getElem? (i := 5) rfl)) (ty := (.array .byte)) (by decide) rfl rfl (g := (mkF m 6 #[.val (.ref a1), .val (.ref ba), .val (.int (0 : Int32))] [(.ref ba), (.ref a1)])) rfl rfl (hb hby d33_6)
  have J6 : ∀ t, Steps p.tables e below (T5.setTop (mkF m 9 #[.val (.ref a1), .val (.ref ba), .val (.int (0 : Int32))] [])) t → Steps p.tables e below (s₁.setTop (entryFrame m #[(.ref a1), (.ref ba), (.int (0 : Int32))] 3)) t := fun t k => J4 t (st5 t k)
  have Z7 : n0 ≤ h5.size := Nat.le_trans Z0 (Keep.of_wr W5).1
  have KK8 : Keep h0 h5 [a1] := (Keep.refl h0 [a1]).wr W5 (Or.inl (List.mem_of_getElem? (i := 0) rfl))
  have N9 := Fr.snoc X5 N0 g_a1
  have Fw5 := F_value_a1.same W5
  have J10 : ∀ t, Steps p.tables e below (T5.setTop (mkF m 11 #[.val (.ref a1), .val (.ref ba), .val (.int (0 : Int32))] [(.int (0 : Int32)), (.ref a1)])) t → Steps p.tables e below (s₁.setTop (entryFrame m #[(.ref a1), (.ref ba), (.int (0 : Int32))] 3)) t := fun t k => J6 t (by
      show Steps p.tables e below (T5.setTop (mkF m 9 #[.val (.ref a1), .val (.ref ba), .val (.int (0 : Int32))] [])) _
      refine XS.aloadN X5.here hx rfl (hb hby d33_9) rfl rfl ?_
      show Steps p.tables e below (T5.setTop (mkF m 10 #[.val (.ref a1), .val (.ref ba), .val (.int (0 : Int32))] [(.ref a1)])) _
      refine XS.iloadN X5.here hx rfl (hb hby d33_10) rfl ?_
      exact k)
  have f11 := F_coder_a1.other W5 (Or.inr (slot_ne (Or.inr (hw _ (List.mem_of_getElem? (i := 8) rfl))) (Or.inr (hw _ (List.mem_of_getElem? (i := 7) rfl))) (by decide) (t := .byte) (t' := (.array .byte)) (by decide) (by decide)))
  have f12 := E_a1.wr W5
  obtain ⟨T13, h13, X13, e13, W13, st13⟩ := putFN X5 hx hZ hown (hw _ (List.mem_of_getElem? (i := 143) rfl)) Via.refl e5 f11 f12 (Or.inr ⟨(hw _ (List.mem_of_getElem? (i := 8) rfl)), rfl, hnm⟩) (hw _ (List.mem_of_getElem? (i := 5) rfl)) (ty := .byte) (v' := (.int (0 : Int32))) (by decide) rfl (by decide) (g := (mkF m 11 #[.val (.ref a1), .val (.ref ba), .val (.int (0 : Int32))] [(.int (0 : Int32)), (.ref a1)])) rfl rfl (hb hby d33_11)
  have J14 : ∀ t, Steps p.tables e below (T13.setTop (mkF m 14 #[.val (.ref a1), .val (.ref ba), .val (.int (0 : Int32))] [])) t → Steps p.tables e below (s₁.setTop (entryFrame m #[(.ref a1), (.ref ba), (.int (0 : Int32))] 3)) t := fun t k => J10 t (st13 t k)
  have Z15 : n0 ≤ h13.size := Nat.le_trans Z7 (Keep.of_wr W13).1
  have KK16 : Keep h0 h13 [a1] := KK8.wr W13 (Or.inl (List.mem_of_getElem? (i := 0) rfl))
  have N17 := Fr.snoc X13 N9 g_a1
  have Fw13 := f11.same W13
  obtain ⟨fs, hr, hrun, hended, hW, hsame⟩ := X13.leave (v := none) (fun _ => rfl)
  have f18 := f12.wr W13
  have f19 := Fw5.other W13 (Or.inr (slot_ne (Or.inr (hw _ (List.mem_of_getElem? (i := 7) rfl))) (Or.inr (hw _ (List.mem_of_getElem? (i := 8) rfl))) (by decide) (t := (.array .byte)) (t' := .byte) (by decide) (by decide)))
  refine ⟨_, _, J14 _ ?_, hrun, hended, _, _, rfl, ?_, ⟨_, rfl⟩, hW, hsame.mono (by decide) (by decide)⟩
  · show Steps p.tables e below (T13.setTop (mkF m 14 #[.val (.ref a1), .val (.ref ba), .val (.int (0 : Int32))] [])) _
    exact X13.returnOut hx Bd.returns (hb hby d33_14) hr
  · show Q33L Z a1 ba u1 u2 h0 n0 _ T13.heap _
    rw [e13]
    exact ⟨rfl, N17, KK16, f18, f19, Fw13⟩
theorem d30_0 : decode jdk_42_method_139_code 0 = .ok (.getstatic 38, 3) := by decide +kernel
theorem d30_3 : decode jdk_42_method_139_code 3 = .ok (.ifCond .eq 23, 3) := by decide +kernel
theorem d30_6 : decode jdk_42_method_139_code 6 = .ok (.iload_n 0, 1) := by decide +kernel
theorem d30_7 : decode jdk_42_method_139_code 7 = .ok (.invokestatic 1015, 3) := by decide +kernel
theorem pd_21 : parseMethodDescriptor "(C)Z" = some ⟨[.char], some .boolean⟩ := by decide +kernel
theorem d30_10 : decode jdk_42_method_139_code 10 = .ok (.ifCond .eq 16, 3) := by decide +kernel
theorem d30_13 : decode jdk_42_method_139_code 13 = .ok (.new 10, 3) := by decide +kernel
theorem d30_16 : decode jdk_42_method_139_code 16 = .ok (.dup, 1) := by decide +kernel
theorem d30_17 : decode jdk_42_method_139_code 17 = .ok (.iload_n 0, 1) := by decide +kernel
theorem d30_18 : decode jdk_42_method_139_code 18 = .ok (.invokestatic 1018, 3) := by decide +kernel
theorem pd_22 : parseMethodDescriptor "(C)[B" = some ⟨[.char], some (.array .byte)⟩ := by decide +kernel
theorem d30_21 : decode jdk_42_method_139_code 21 = .ok (.iconst 0, 1) := by decide +kernel
theorem d30_22 : decode jdk_42_method_139_code 22 = .ok (.invokespecial 209, 3) := by decide +kernel
theorem pd_23 : parseMethodDescriptor "([BB)V" = some ⟨[(.array .byte), .byte], none⟩ := by decide +kernel
theorem d30_25 : decode jdk_42_method_139_code 25 = .ok (.areturn, 1) := by decide +kernel
theorem pn_30 : plainName "java/lang/String" = true := by first | (simp [plainName, overriddenIn]; done) | decide +kernel
theorem ef_30_x (m : MethodId) (x0 : Int32) : entryFrame m #[(.int x0)] 1 = mkF m 0 #[.val (.int x0)] [] := by first | (simp [entryFrame, mkF, argsToLocals, Value.category]; done) | rfl
def Q30L (Z : State) (ch : Int32) (cs : Int32) (h0 : Heap) (n0 : Nat) (v : Option Value) (h : Heap) (L : List Loc) : Prop := ∃ (st : Addr) (ba : Addr) (bcl : Cell), v = some (.ref st) ∧ Fr n0 L ∧ Keep h0 h [] ∧ (Exa Z h st "java/lang/String") ∧ (Fld Z h st "java/lang/String" "value" "[B" (.ref ba)) ∧ (Fld Z h st "java/lang/String" "coder" "B" (.int (0 : Int32))) ∧ (Arr Z h ba bcl .byte) ∧ (bcl.slots.size = 1) ∧ (bcl.slots[0]? = some (.int (nar .byte (ch.toInt8.toInt32)))) ∧ (h0.size ≤ st)
set_option maxRecDepth 65536 in
set_option maxHeartbeats 40000000 in
theorem rm30L (l : Launch) (Z : State) (a0 : Array Value) (hw : ∀ d ∈ tables_1, d.before a0 Z = true) (ws : List Jvm.Cond) (ch : Int32) (cs : Int32) (h0 : Heap) (n0 : Nat) (Z0 : n0 ≤ h0.size) (hk : ¬ (255 : Int32) < ch) (O : Old Z n0 h0) (Zs_COMPACT_STRINGS : Sta Z Z.heap "java/lang/String" "COMPACT_STRINGS" "Z" (.int cs)) (hcs : ¬ cs = (0 : Int32)) :
    MetFree l (⟨"java/lang/String", "valueOf", "(C)Ljava/lang/String;"⟩ : MethodName) (head1 (Jvm.Cond.code (⟨"java/lang/String", "valueOf", "(C)Ljava/lang/String;"⟩ : MethodName) jdk_42_method_139_code 1 (some (.object "java/lang/String")) :: ws) ({ frames := 2, cells := 2, slots := 5, locals := 27 } : Room)) (fun a U => a = #[(.int ch)] ∧ Z.Warmed39 U.vm ∧ U.heap = h0) (fun _ _ _ _ _ => True) (fun _ U o U' => ∃ v L, o = .returned v ∧ Q30L Z ch cs h0 n0 v U'.heap L ∧ FrameEnd U o U' L ({ frames := 2, cells := 2, slots := 5, locals := 27 } : Room).cells ({ frames := 2, cells := 2, slots := 5, locals := 27 } : Room).slots) := by
  refine MetFree.of_bodySF (plainFor_of_name pn_30) hisR ?_
  intro p e s m args below meth c s₁ Bd hml0 hP hK
  obtain ⟨rfl, hZ, hh⟩ := hP
  have hx := Bd.exec
  have hby := Bd.bytes
  have hml : c.maxLocals = 1 := hml0
  have hown : s.vm.findClass "java/lang/String" = some m.cls := findClass_of_methodNamed Bd.named
  have hnm := (name_of_methodNamed Bd.named Bd.method).1
  have X0 : Stand p l e ({ frames := 2, cells := 2, slots := 5, locals := 27 } : Room) s m #[(.int ch)] below meth c s₁ [] 0 0 := Stand.of_body Bd
  have e0 : s₁.heap = h0 := by rw [← hh, Bd.state]; rfl
  have N0 := Fr.nil n0
  have pre0 : ∀ t, Steps p.tables e below (s₁.setTop (mkF m 0 #[.val (.int ch)] [])) t → Steps p.tables e below (s₁.setTop (entryFrame m #[(.int ch)] 1)) t := fun t k => castTop (ef_30_x m ch) k
  obtain ⟨T1, X1, e1, st1⟩ := getS2 X0 hx hZ hown (host := "") (Or.inl (hw _ (List.mem_of_getElem? (i := 132) rfl))) Via.refl e0 (Zs_COMPACT_STRINGS.ext O.2) (g := (mkF m 0 #[.val (.int ch)] [])) rfl (hb hby d30_0)
  have J2 : ∀ t, Steps p.tables e below (T1.setTop (mkF m 3 #[.val (.int ch)] [(.int cs)])) t → Steps p.tables e below (s₁.setTop (entryFrame m #[(.int ch)] 1)) t := fun t k => pre0 t (st1 t k)
  have J3 : ∀ t, Steps p.tables e below (T1.setTop (mkF m 7 #[.val (.int ch)] [(.int ch)])) t → Steps p.tables e below (s₁.setTop (entryFrame m #[(.int ch)] 1)) t := fun t k => J2 t (by
      show Steps p.tables e below (T1.setTop (mkF m 3 #[.val (.int ch)] [(.int cs)])) _
      refine XS.ifNo X1.here hx rfl (hb hby d30_3) rfl ((if0 _ _).trans (feq hcs).1) ?_
      show Steps p.tables e below (T1.setTop (mkF m 6 #[.val (.int ch)] [])) _
      refine XS.iloadN X1.here hx rfl (hb hby d30_6) rfl ?_
      exact k)
  obtain ⟨_, _, ⟨T4, L4, k4, n4⟩, -, X4, ⟨Lc4, hQ4, l4, y4, z4⟩, st4⟩ := Jvm.LawKit.callS X1 hx (y := (⟨"java/lang/StringLatin1", "canEncode", "(C)Z"⟩ : MethodName)) hown (mvT hZ (hw _ (List.mem_of_getElem? (i := 196) rfl))) (mvT hZ (hw _ (List.mem_of_getElem? (i := 197) rfl))) (mvT hZ (hw _ (List.mem_of_getElem? (i := 198) rfl))) (mvT hZ (hw _ (List.mem_of_getElem? (i := 199) rfl))) (by decide) (backOf (W := 0) (rm31L l Z a0 hw [] ch h0 n0 Z0 (by assumption)) hZ (hw _ (List.mem_of_getElem? (i := 199) rfl)) (hw _ (List.mem_of_getElem? (i := 198) rfl)) (by decide) (by decide)) (g := (mkF m 7 #[.val (.int ch)] [(.int ch)])) rfl (by rw [hml]; rfl) (argsL := [(.int ch)]) (rest := []) (lenOf pd_21 rfl) rfl (by show 2 * 0 + _ ≤ _; exact Nat.le_of_eq rfl) (hb hby d30_7) (fun _ _ => ⟨rfl, e1, (by decide : 0 + 0 ≤ _), (by decide : 0 + 0 ≤ _)⟩)
  dsimp only [Pt.U, Pt.locs, Pt.cells, Pt.slots] at X4 l4 y4 z4 st4 hQ4
  subst y4 z4
  obtain ⟨rfl, Nq4, e4⟩ := hQ4
  have N5 : Fr n0 L4 := by rw [l4]; exact Fr.app N0 Nq4
  have J6 : ∀ t, Steps p.tables e below (T4.setTop (mkF m 10 #[.val (.int ch)] [(.int (1 : Int32))])) t → Steps p.tables e below (s₁.setTop (entryFrame m #[(.int ch)] 1)) t := fun t k => J3 t (st4 t k)
  have J7 : ∀ t, Steps p.tables e below (T4.setTop (mkF m 13 #[.val (.int ch)] [])) t → Steps p.tables e below (s₁.setTop (entryFrame m #[(.int ch)] 1)) t := fun t k => J6 t (by
      show Steps p.tables e below (T4.setTop (mkF m 10 #[.val (.int ch)] [(.int (1 : Int32))])) _
      refine XS.ifNo X4.here hx rfl (hb hby d30_10) rfl ((if0 _ _).trans (feq (by decide)).1) ?_
      exact k)
  obtain ⟨T8, h8, X8, e8, E8, A8, D8, -, st8⟩ := newO X4 hx hZ hown (hw _ (List.mem_of_getElem? (i := 200) rfl)) (hw _ (List.mem_of_getElem? (i := 5) rfl)) (hw _ (List.mem_of_getElem? (i := 4) rfl)) e4 (g := (mkF m 13 #[.val (.int ch)] [])) rfl (hb hby d30_13) (by decide) (by decide)
  obtain ⟨b8, g8⟩ : ∃ z, z = h0.size := ⟨_, rfl⟩
  rw [← g8] at A8 D8 st8
  have J9 : ∀ t, Steps p.tables e below (T8.setTop (mkF m 16 #[.val (.int ch)] [(.ref b8)])) t → Steps p.tables e below (s₁.setTop (entryFrame m #[(.int ch)] 1)) t := fun t k => J7 t (st8 t k)
  have ge10 : n0 ≤ b8 := Nat.le_trans Z0 (Nat.le_of_eq g8.symm)
  have sz11 : h0.size ≤ b8 := Nat.le_trans (Keep.refl h0 []).1 (Nat.le_of_eq g8.symm)
  have Z12 : n0 ≤ h8.size := Nat.le_trans Z0 E8.1
  have KK13 : Keep h0 h8 [] := (Keep.refl h0 []).ext E8
  have F8_value : Fld Z h8 b8 "java/lang/String" "value" "[B" .null := D8 (Or.inr (hw _ (List.mem_of_getElem? (i := 7) rfl))) (ty := (.array .byte)) (by decide)
  have F8_coder : Fld Z h8 b8 "java/lang/String" "coder" "B" (.int (0 : Int32)) := D8 (Or.inr (hw _ (List.mem_of_getElem? (i := 8) rfl))) (ty := .byte) (by decide)
  have J14 : ∀ t, Steps p.tables e below (T8.setTop (mkF m 18 #[.val (.int ch)] [(.int ch), (.ref b8), (.ref b8)])) t → Steps p.tables e below (s₁.setTop (entryFrame m #[(.int ch)] 1)) t := fun t k => J9 t (by
      show Steps p.tables e below (T8.setTop (mkF m 16 #[.val (.int ch)] [(.ref b8)])) _
      refine XS.dup X8.here hx rfl (hb hby d30_16) rfl rfl ?_
      show Steps p.tables e below (T8.setTop (mkF m 17 #[.val (.int ch)] [(.ref b8), (.ref b8)])) _
      refine XS.iloadN X8.here hx rfl (hb hby d30_17) rfl ?_
      exact k)
  obtain ⟨_, _, ⟨T15, L15, k15, n15⟩, -, X15, ⟨Lc15, hQ15, l15, y15, z15⟩, st15⟩ := Jvm.LawKit.callS X8 hx (y := (⟨"java/lang/StringLatin1", "toBytes", "(C)[B"⟩ : MethodName)) hown (mvT hZ (hw _ (List.mem_of_getElem? (i := 201) rfl))) (mvT hZ (hw _ (List.mem_of_getElem? (i := 202) rfl))) (mvT hZ (hw _ (List.mem_of_getElem? (i := 198) rfl))) (mvT hZ (hw _ (List.mem_of_getElem? (i := 203) rfl))) (by decide) (backOf (W := 2) (rm32 l Z a0 hw [] ch h8 n0 Z12 ) hZ (hw _ (List.mem_of_getElem? (i := 203) rfl)) (hw _ (List.mem_of_getElem? (i := 198) rfl)) (by decide) (by decide)) (g := (mkF m 18 #[.val (.int ch)] [(.int ch), (.ref b8), (.ref b8)])) rfl (by rw [hml]; rfl) (argsL := [(.int ch)]) (rest := [(.ref b8), (.ref b8)]) (lenOf pd_22 rfl) rfl (by show 2 * 0 + _ ≤ _; exact Nat.le_of_eq rfl) (hb hby d30_18) (fun _ _ => ⟨rfl, e8, (by decide : 1 + 1 ≤ _), (by decide : 4 + 1 ≤ _)⟩)
  dsimp only [Pt.U, Pt.locs, Pt.cells, Pt.slots] at X15 l15 y15 z15 st15 hQ15
  subst y15 z15
  obtain ⟨ba_15, bcl_15, rfl, Nq15, K15, p15_1, p15_2, p15_3, p15_4, p15_5⟩ := hQ15
  have N16 : Fr n0 L15 := by rw [l15]; exact Fr.app N5 Nq15
  have J17 : ∀ t, Steps p.tables e below (T15.setTop (mkF m 21 #[.val (.int ch)] [(.ref ba_15), (.ref b8), (.ref b8)])) t → Steps p.tables e below (s₁.setTop (entryFrame m #[(.int ch)] 1)) t := fun t k => J14 t (st15 t k)
  have Z18 : n0 ≤ T15.heap.size := Nat.le_trans Z12 K15.1
  have KK19 : Keep h0 T15.heap [] := KK13.trans K15 all0
  have J20 : ∀ t, Steps p.tables e below (T15.setTop (mkF m 22 #[.val (.int ch)] [(.int (0 : Int32)), (.ref ba_15), (.ref b8), (.ref b8)])) t → Steps p.tables e below (s₁.setTop (entryFrame m #[(.int ch)] 1)) t := fun t k => J17 t (by
      show Steps p.tables e below (T15.setTop (mkF m 21 #[.val (.int ch)] [(.ref ba_15), (.ref b8), (.ref b8)])) _
      refine XS.iconst X15.here hx rfl (hb hby d30_21) ?_
      exact k)
  have f21 := A8.keep K15
  have f22 := F8_value.keep K15 nin0
  have f23 := F8_coder.keep K15 nin0
  obtain ⟨_, _, ⟨T24, L24, k24, n24⟩, -, X24, ⟨Lc24, hQ24, l24, y24, z24⟩, st24⟩ := X15.specialBack hx (y := (⟨"java/lang/String", "<init>", "([BB)V"⟩ : MethodName)) rfl hown (mvT hZ (hw _ (List.mem_of_getElem? (i := 204) rfl))) (mvT hZ (hw _ (List.mem_of_getElem? (i := 205) rfl))) (mvT hZ (hw _ (List.mem_of_getElem? (i := 206) rfl))) (by decide) (backOf (W := 1) (rm33L l Z a0 hw [] b8 ba_15 .null (.int (0 : Int32)) T15.heap n0 Z18 f21 ge10 f22 f23) hZ (hw _ (List.mem_of_getElem? (i := 206) rfl)) (hw _ (List.mem_of_getElem? (i := 4) rfl)) (by decide) (by decide)) (g := (mkF m 22 #[.val (.int ch)] [(.int (0 : Int32)), (.ref ba_15), (.ref b8), (.ref b8)])) rfl (by rw [hml]; rfl) (Steps.refl _) (a := b8) (argsL := [(.ref ba_15), (.int (0 : Int32))]) (rest := [(.ref b8)]) (lenOf pd_23 rfl) rfl (by show 2 * 0 + _ ≤ _; exact Nat.le_of_eq rfl) (hb hby d30_22) (fun _ _ => ⟨rfl, rfl, (by decide : 2 + 0 ≤ _), (by decide : 5 + 0 ≤ _)⟩)
  dsimp only [Pt.U, Pt.locs, Pt.cells, Pt.slots] at X24 l24 y24 z24 st24 hQ24
  subst y24 z24
  obtain ⟨rfl, Nq24, K24, p24_1, p24_2, p24_3⟩ := hQ24
  have N25 : Fr n0 L24 := by rw [l24]; exact Fr.app N16 Nq24
  have J26 : ∀ t, Steps p.tables e below (T24.setTop (mkF m 25 #[.val (.int ch)] [(.ref b8)])) t → Steps p.tables e below (s₁.setTop (entryFrame m #[(.int ch)] 1)) t := fun t k => J20 t (st24.trans k)
  have Z27 : n0 ≤ T24.heap.size := Nat.le_trans Z18 K24.1
  have KK28 : Keep h0 T24.heap [] := KK19.trans K24 (allS (Or.inr sz11) all0)
  obtain ⟨fs, hr, hrun, hended, hW, hsame⟩ := X24.leave (v := some (.ref b8)) (fun h => by rw [Bd.returns] at h; cases h)
  have f29 : Arr Z T24.heap ba_15 bcl_15 .byte := ⟨K24.2.1 _ _ p15_1.1 (ninS (Ne.symm (Nat.ne_of_lt (Nat.lt_of_lt_of_le A8.lt p15_5))) nin0), p15_1.2⟩
  refine ⟨_, _, J26 _ ?_, hrun, hended, _, _, rfl, ?_, ⟨_, rfl⟩, hW, hsame.mono (by decide) (by decide)⟩
  · show Steps p.tables e below (T24.setTop (mkF m 25 #[.val (.int ch)] [(.ref b8)])) _
    jvm_step X24.here [X24.here.top, hx, (hb hby d30_25), X24.method', Bd.returns, Value.isRef, FieldType.isReference]
    first | (intro acts; rw [hr _ acts rfl rfl rfl]) | rw [hr _ _ rfl rfl rfl]
    exact Steps.refl _
  · show Q30L Z ch cs h0 n0 _ T24.heap _
    exact ⟨b8, ba_15, bcl_15, rfl, N25, KK28, p24_1, p24_2, p24_3, f29, p15_2, p15_3, sz11⟩
theorem d35_0 : decode jdk_43_method_13_code 0 = .ok (.aload_n 0, 1) := by decide +kernel
theorem d35_1 : decode jdk_43_method_13_code 1 = .ok (.arraylength, 1) := by decide +kernel
theorem d35_2 : decode jdk_43_method_13_code 2 = .ok (.aload_n 1, 1) := by decide +kernel
theorem d35_3 : decode jdk_43_method_13_code 3 = .ok (.arraylength, 1) := by decide +kernel
theorem d35_4 : decode jdk_43_method_13_code 4 = .ok (.if_icmp .ne 30, 3) := by decide +kernel
theorem d35_7 : decode jdk_43_method_13_code 7 = .ok (.iconst 0, 1) := by decide +kernel
theorem d35_8 : decode jdk_43_method_13_code 8 = .ok (.istore_n 2, 1) := by decide +kernel
theorem d35_9 : decode jdk_43_method_13_code 9 = .ok (.iload_n 2, 1) := by decide +kernel
theorem d35_10 : decode jdk_43_method_13_code 10 = .ok (.aload_n 0, 1) := by decide +kernel
theorem d35_11 : decode jdk_43_method_13_code 11 = .ok (.arraylength, 1) := by decide +kernel
theorem d35_12 : decode jdk_43_method_13_code 12 = .ok (.if_icmp .ge 20, 3) := by decide +kernel
theorem d35_15 : decode jdk_43_method_13_code 15 = .ok (.aload_n 0, 1) := by decide +kernel
theorem d35_16 : decode jdk_43_method_13_code 16 = .ok (.iload_n 2, 1) := by decide +kernel
theorem d35_17 : decode jdk_43_method_13_code 17 = .ok (.baload, 1) := by decide +kernel
theorem d35_18 : decode jdk_43_method_13_code 18 = .ok (.aload_n 1, 1) := by decide +kernel
theorem d35_19 : decode jdk_43_method_13_code 19 = .ok (.iload_n 2, 1) := by decide +kernel
theorem d35_20 : decode jdk_43_method_13_code 20 = .ok (.baload, 1) := by decide +kernel
theorem d35_21 : decode jdk_43_method_13_code 21 = .ok (.if_icmp .eq 5, 3) := by decide +kernel
theorem d35_26 : decode jdk_43_method_13_code 26 = .ok (.iinc 2 1, 3) := by decide +kernel
theorem d35_29 : decode jdk_43_method_13_code 29 = .ok (.goto (-20), 3) := by decide +kernel
theorem d35_32 : decode jdk_43_method_13_code 32 = .ok (.iconst 1, 1) := by decide +kernel
theorem d35_33 : decode jdk_43_method_13_code 33 = .ok (.ireturn, 1) := by decide +kernel
theorem pn_35 : plainName "java/lang/StringLatin1" = true := by first | (simp [plainName, overriddenIn]; done) | decide +kernel
theorem ef_35_xx (m : MethodId) (x0 : Addr) (x1 : Addr) : entryFrame m #[(.ref x0), (.ref x1)] 3 = mkF m 0 #[.val (.ref x0), .val (.ref x1), .unset] [] := by first | (simp [entryFrame, mkF, argsToLocals, Value.category]; done) | rfl
def Q35L (Z : State) (b1 : Addr) (b2 : Addr) (c1 : Cell) (c2 : Cell) (y0 : Int32) (h0 : Heap) (n0 : Nat) (v : Option Value) (h : Heap) (L : List Loc) : Prop := v = some (.int (1 : Int32)) ∧ Fr n0 L ∧ h = h0
set_option maxRecDepth 65536 in
set_option maxHeartbeats 40000000 in
theorem rm35L (l : Launch) (Z : State) (a0 : Array Value) (hw : ∀ d ∈ tables_1, d.before a0 Z = true) (ws : List Jvm.Cond) (b1 : Addr) (b2 : Addr) (c1 : Cell) (c2 : Cell) (y0 : Int32) (h0 : Heap) (n0 : Nat) (Z0 : n0 ≤ h0.size) (Ar_b1 : Arr Z h0 b1 c1 .byte) (Ar_b2 : Arr Z h0 b2 c2 .byte) (z1 : c1.slots.size = 1) (z2 : c2.slots.size = 1) (x0c1 : c1.slots[0]? = some (.int y0)) (x0c2 : c2.slots[0]? = some (.int y0)) :
    MetFree l (⟨"java/lang/StringLatin1", "equals", "([B[B)Z"⟩ : MethodName) (head1 (Jvm.Cond.code (⟨"java/lang/StringLatin1", "equals", "([B[B)Z"⟩ : MethodName) jdk_43_method_13_code 3 (some .boolean) :: ws) ({ frames := 0, cells := 0, slots := 0, locals := 0 } : Room)) (fun a U => a = #[(.ref b1), (.ref b2)] ∧ Z.Warmed39 U.vm ∧ U.heap = h0) (fun _ _ _ _ _ => True) (fun _ U o U' => ∃ v L, o = .returned v ∧ Q35L Z b1 b2 c1 c2 y0 h0 n0 v U'.heap L ∧ FrameEnd U o U' L ({ frames := 0, cells := 0, slots := 0, locals := 0 } : Room).cells ({ frames := 0, cells := 0, slots := 0, locals := 0 } : Room).slots) := by
  refine MetFree.of_bodySF (plainFor_of_name pn_35) hisR ?_
  intro p e s m args below meth c s₁ Bd hml0 hP hK
  obtain ⟨rfl, hZ, hh⟩ := hP
  have hx := Bd.exec
  have hby := Bd.bytes
  have hml : c.maxLocals = 3 := hml0
  have hown : s.vm.findClass "java/lang/StringLatin1" = some m.cls := findClass_of_methodNamed Bd.named
  have hnm := (name_of_methodNamed Bd.named Bd.method).1
  have X0 : Stand p l e ({ frames := 0, cells := 0, slots := 0, locals := 0 } : Room) s m #[(.ref b1), (.ref b2)] below meth c s₁ [] 0 0 := Stand.of_body Bd
  have e0 : s₁.heap = h0 := by rw [← hh, Bd.state]; rfl
  have N0 := Fr.nil n0
  have pre0 : ∀ t, Steps p.tables e below (s₁.setTop (mkF m 0 #[.val (.ref b1), .val (.ref b2), .unset] [])) t → Steps p.tables e below (s₁.setTop (entryFrame m #[(.ref b1), (.ref b2)] 3)) t := fun t k => castTop (ef_35_xx m b1 b2) k
  have J1 : ∀ t, Steps p.tables e below (s₁.setTop (mkF m 33 #[.val (.ref b1), .val (.ref b2), .val (.int ((0 : Int32) + (1 : Int32)))] [(.int (1 : Int32))])) t → Steps p.tables e below (s₁.setTop (entryFrame m #[(.ref b1), (.ref b2)] 3)) t := fun t k => pre0 t (by
      show Steps p.tables e below (s₁.setTop (mkF m 0 #[.val (.ref b1), .val (.ref b2), .unset] [])) _
      refine XS.aloadN X0.here hx rfl (hb hby d35_0) rfl rfl ?_
      show Steps p.tables e below (s₁.setTop (mkF m 1 #[.val (.ref b1), .val (.ref b2), .unset] [(.ref b1)])) _
      refine X0.arraylength hx (cell := c1) (by rw [e0]; exact Ar_b1.1) (State.isArrayOf_alike hZ.alike Ar_b1.2.1) (g := (mkF m 1 #[.val (.ref b1), .val (.ref b2), .unset] [(.ref b1)])) rfl (rest := []) rfl (hb hby d35_1) _ ?_
      rw [(show c1.slots.size.toInt32 = (1 : Int32) from by rw [z1]; rfl)]
      show Steps p.tables e below (s₁.setTop (mkF m 2 #[.val (.ref b1), .val (.ref b2), .unset] [(.int (1 : Int32))])) _
      refine XS.aloadN X0.here hx rfl (hb hby d35_2) rfl rfl ?_
      show Steps p.tables e below (s₁.setTop (mkF m 3 #[.val (.ref b1), .val (.ref b2), .unset] [(.ref b2), (.int (1 : Int32))])) _
      refine X0.arraylength hx (cell := c2) (by rw [e0]; exact Ar_b2.1) (State.isArrayOf_alike hZ.alike Ar_b2.2.1) (g := (mkF m 3 #[.val (.ref b1), .val (.ref b2), .unset] [(.ref b2), (.int (1 : Int32))])) rfl (rest := [(.int (1 : Int32))]) rfl (hb hby d35_3) _ ?_
      rw [(show c2.slots.size.toInt32 = (1 : Int32) from by rw [z2]; rfl)]
      show Steps p.tables e below (s₁.setTop (mkF m 4 #[.val (.ref b1), .val (.ref b2), .unset] [(.int (1 : Int32)), (.int (1 : Int32))])) _
      refine XS.icmpNo X0.here hx rfl (hb hby d35_4) rfl (teq rfl).2 ?_
      show Steps p.tables e below (s₁.setTop (mkF m 7 #[.val (.ref b1), .val (.ref b2), .unset] [])) _
      refine XS.iconst X0.here hx rfl (hb hby d35_7) ?_
      show Steps p.tables e below (s₁.setTop (mkF m 8 #[.val (.ref b1), .val (.ref b2), .unset] [(.int (0 : Int32))])) _
      refine XS.istoreN X0.here hx rfl (hb hby d35_8) rfl (l' := #[.val (.ref b1), .val (.ref b2), .val (.int (0 : Int32))]) rfl ?_
      show Steps p.tables e below (s₁.setTop (mkF m 9 #[.val (.ref b1), .val (.ref b2), .val (.int (0 : Int32))] [])) _
      refine XS.iloadN X0.here hx rfl (hb hby d35_9) rfl ?_
      show Steps p.tables e below (s₁.setTop (mkF m 10 #[.val (.ref b1), .val (.ref b2), .val (.int (0 : Int32))] [(.int (0 : Int32))])) _
      refine XS.aloadN X0.here hx rfl (hb hby d35_10) rfl rfl ?_
      show Steps p.tables e below (s₁.setTop (mkF m 11 #[.val (.ref b1), .val (.ref b2), .val (.int (0 : Int32))] [(.ref b1), (.int (0 : Int32))])) _
      refine X0.arraylength hx (cell := c1) (by rw [e0]; exact Ar_b1.1) (State.isArrayOf_alike hZ.alike Ar_b1.2.1) (g := (mkF m 11 #[.val (.ref b1), .val (.ref b2), .val (.int (0 : Int32))] [(.ref b1), (.int (0 : Int32))])) rfl (rest := [(.int (0 : Int32))]) rfl (hb hby d35_11) _ ?_
      rw [(show c1.slots.size.toInt32 = (1 : Int32) from by rw [z1]; rfl)]
      show Steps p.tables e below (s₁.setTop (mkF m 12 #[.val (.ref b1), .val (.ref b2), .val (.int (0 : Int32))] [(.int (1 : Int32)), (.int (0 : Int32))])) _
      refine XS.icmpNo X0.here hx rfl (hb hby d35_12) rfl (tlt (by decide)).2.1 ?_
      show Steps p.tables e below (s₁.setTop (mkF m 15 #[.val (.ref b1), .val (.ref b2), .val (.int (0 : Int32))] [])) _
      refine XS.aloadN X0.here hx rfl (hb hby d35_15) rfl rfl ?_
      show Steps p.tables e below (s₁.setTop (mkF m 16 #[.val (.ref b1), .val (.ref b2), .val (.int (0 : Int32))] [(.ref b1)])) _
      refine XS.iloadN X0.here hx rfl (hb hby d35_16) rfl ?_
      show Steps p.tables e below (s₁.setTop (mkF m 17 #[.val (.ref b1), .val (.ref b2), .val (.int (0 : Int32))] [(.int (0 : Int32)), (.ref b1)])) _
      refine X0.baloadBytes hx (j := (0 : Int32)) (v := (.int y0)) (by rw [e0]; exact Ar_b1.1) (State.isArrayOf_alike hZ.alike Ar_b1.2.1) Ar_b1.2.2 (own_in z1 (by decide) (by decide)) (own_at (by decide) x0c1) (g := (mkF m 17 #[.val (.ref b1), .val (.ref b2), .val (.int (0 : Int32))] [(.int (0 : Int32)), (.ref b1)])) rfl rfl (hb hby d35_17) _ ?_
      show Steps p.tables e below (s₁.setTop (mkF m 18 #[.val (.ref b1), .val (.ref b2), .val (.int (0 : Int32))] [(.int y0)])) _
      refine XS.aloadN X0.here hx rfl (hb hby d35_18) rfl rfl ?_
      show Steps p.tables e below (s₁.setTop (mkF m 19 #[.val (.ref b1), .val (.ref b2), .val (.int (0 : Int32))] [(.ref b2), (.int y0)])) _
      refine XS.iloadN X0.here hx rfl (hb hby d35_19) rfl ?_
      show Steps p.tables e below (s₁.setTop (mkF m 20 #[.val (.ref b1), .val (.ref b2), .val (.int (0 : Int32))] [(.int (0 : Int32)), (.ref b2), (.int y0)])) _
      refine X0.baloadBytes hx (j := (0 : Int32)) (v := (.int y0)) (by rw [e0]; exact Ar_b2.1) (State.isArrayOf_alike hZ.alike Ar_b2.2.1) Ar_b2.2.2 (own_in z2 (by decide) (by decide)) (own_at (by decide) x0c2) (g := (mkF m 20 #[.val (.ref b1), .val (.ref b2), .val (.int (0 : Int32))] [(.int (0 : Int32)), (.ref b2), (.int y0)])) rfl rfl (hb hby d35_20) _ ?_
      show Steps p.tables e below (s₁.setTop (mkF m 21 #[.val (.ref b1), .val (.ref b2), .val (.int (0 : Int32))] [(.int y0), (.int y0)])) _
      refine XS.icmpYes X0.here hx rfl (pc0 := 21) (pc' := 26) rfl (hb hby d35_21) rfl (teq rfl).1 (by decide) (by decide) ?_
      show Steps p.tables e below (s₁.setTop (mkF m 26 #[.val (.ref b1), .val (.ref b2), .val (.int (0 : Int32))] [])) _
      refine XS.iinc X0.here hx rfl (hb hby d35_26) rfl (l' := #[.val (.ref b1), .val (.ref b2), .val (.int ((0 : Int32) + (1 : Int32)))]) rfl ?_
      show Steps p.tables e below (s₁.setTop (mkF m 29 #[.val (.ref b1), .val (.ref b2), .val (.int ((0 : Int32) + (1 : Int32)))] [])) _
      refine XS.goto X0.here hx rfl (pc0 := 29) (pc' := 9) rfl (hb hby d35_29) (by decide) (by decide) ?_
      show Steps p.tables e below (s₁.setTop (mkF m 9 #[.val (.ref b1), .val (.ref b2), .val (.int ((0 : Int32) + (1 : Int32)))] [])) _
      refine XS.iloadN X0.here hx rfl (hb hby d35_9) rfl ?_
      show Steps p.tables e below (s₁.setTop (mkF m 10 #[.val (.ref b1), .val (.ref b2), .val (.int ((0 : Int32) + (1 : Int32)))] [(.int ((0 : Int32) + (1 : Int32)))])) _
      refine XS.aloadN X0.here hx rfl (hb hby d35_10) rfl rfl ?_
      show Steps p.tables e below (s₁.setTop (mkF m 11 #[.val (.ref b1), .val (.ref b2), .val (.int ((0 : Int32) + (1 : Int32)))] [(.ref b1), (.int ((0 : Int32) + (1 : Int32)))])) _
      refine X0.arraylength hx (cell := c1) (by rw [e0]; exact Ar_b1.1) (State.isArrayOf_alike hZ.alike Ar_b1.2.1) (g := (mkF m 11 #[.val (.ref b1), .val (.ref b2), .val (.int ((0 : Int32) + (1 : Int32)))] [(.ref b1), (.int ((0 : Int32) + (1 : Int32)))])) rfl (rest := [(.int ((0 : Int32) + (1 : Int32)))]) rfl (hb hby d35_11) _ ?_
      rw [(show c1.slots.size.toInt32 = (1 : Int32) from by rw [z1]; rfl)]
      show Steps p.tables e below (s₁.setTop (mkF m 12 #[.val (.ref b1), .val (.ref b2), .val (.int ((0 : Int32) + (1 : Int32)))] [(.int (1 : Int32)), (.int ((0 : Int32) + (1 : Int32)))])) _
      refine XS.icmpYes X0.here hx rfl (pc0 := 12) (pc' := 32) rfl (hb hby d35_12) rfl (flt (by decide)).2.1 (by decide) (by decide) ?_
      show Steps p.tables e below (s₁.setTop (mkF m 32 #[.val (.ref b1), .val (.ref b2), .val (.int ((0 : Int32) + (1 : Int32)))] [])) _
      refine XS.iconst X0.here hx rfl (hb hby d35_32) ?_
      exact k)
  obtain ⟨fs, hr, hrun, hended, hW, hsame⟩ := X0.leave (v := some (.int (1 : Int32))) (fun h => by rw [Bd.returns] at h; cases h)
  refine ⟨_, _, J1 _ ?_, hrun, hended, _, _, rfl, ?_, ⟨_, rfl⟩, hW, hsame.mono (by decide) (by decide)⟩
  · show Steps p.tables e below (s₁.setTop (mkF m 33 #[.val (.ref b1), .val (.ref b2), .val (.int ((0 : Int32) + (1 : Int32)))] [(.int (1 : Int32))])) _
    exact retN X0 hx (t := .boolean) Bd.returns (by simp) (hb hby d35_33) hr
  · show Q35L Z b1 b2 c1 c2 y0 h0 n0 _ s₁.heap _
    rw [e0]
    exact ⟨rfl, N0, rfl⟩
theorem d34_0 : decode jdk_42_method_66_code 0 = .ok (.aload_n 0, 1) := by decide +kernel
theorem d34_1 : decode jdk_42_method_66_code 1 = .ok (.aload_n 1, 1) := by decide +kernel
theorem d34_2 : decode jdk_42_method_66_code 2 = .ok (.if_acmp .ne 5, 3) := by decide +kernel
theorem d34_7 : decode jdk_42_method_66_code 7 = .ok (.aload_n 1, 1) := by decide +kernel
theorem d34_8 : decode jdk_42_method_66_code 8 = .ok (.instanceof 10, 3) := by decide +kernel
theorem d34_11 : decode jdk_42_method_66_code 11 = .ok (.ifCond .eq 43, 3) := by decide +kernel
theorem d34_14 : decode jdk_42_method_66_code 14 = .ok (.aload_n 1, 1) := by decide +kernel
theorem d34_15 : decode jdk_42_method_66_code 15 = .ok (.checkcast 10, 3) := by decide +kernel
theorem d34_18 : decode jdk_42_method_66_code 18 = .ok (.astore_n 2, 1) := by decide +kernel
theorem d34_19 : decode jdk_42_method_66_code 19 = .ok (.getstatic 38, 3) := by decide +kernel
theorem d34_22 : decode jdk_42_method_66_code 22 = .ok (.ifCond .eq 14, 3) := by decide +kernel
theorem d34_25 : decode jdk_42_method_66_code 25 = .ok (.aload_n 0, 1) := by decide +kernel
theorem d34_26 : decode jdk_42_method_66_code 26 = .ok (.getfield 15, 3) := by decide +kernel
theorem d34_29 : decode jdk_42_method_66_code 29 = .ok (.aload_n 2, 1) := by decide +kernel
theorem d34_30 : decode jdk_42_method_66_code 30 = .ok (.getfield 15, 3) := by decide +kernel
theorem d34_33 : decode jdk_42_method_66_code 33 = .ok (.if_icmp .ne 21, 3) := by decide +kernel
theorem d34_36 : decode jdk_42_method_66_code 36 = .ok (.aload_n 0, 1) := by decide +kernel
theorem d34_37 : decode jdk_42_method_66_code 37 = .ok (.getfield 9, 3) := by decide +kernel
theorem d34_40 : decode jdk_42_method_66_code 40 = .ok (.aload_n 2, 1) := by decide +kernel
theorem d34_41 : decode jdk_42_method_66_code 41 = .ok (.getfield 9, 3) := by decide +kernel
theorem d34_44 : decode jdk_42_method_66_code 44 = .ok (.invokestatic 541, 3) := by decide +kernel
theorem pd_24 : parseMethodDescriptor "([B[B)Z" = some ⟨[(.array .byte), (.array .byte)], some .boolean⟩ := by decide +kernel
theorem d34_47 : decode jdk_42_method_66_code 47 = .ok (.ifCond .eq 7, 3) := by decide +kernel
theorem d34_50 : decode jdk_42_method_66_code 50 = .ok (.iconst 1, 1) := by decide +kernel
theorem d34_51 : decode jdk_42_method_66_code 51 = .ok (.goto 4, 3) := by decide +kernel
theorem d34_55 : decode jdk_42_method_66_code 55 = .ok (.ireturn, 1) := by decide +kernel
theorem pn_34 : plainName "java/lang/String" = true := by first | (simp [plainName, overriddenIn]; done) | decide +kernel
theorem ef_34_xx (m : MethodId) (x0 : Addr) (x1 : Addr) : entryFrame m #[(.ref x0), (.ref x1)] 3 = mkF m 0 #[.val (.ref x0), .val (.ref x1), .unset] [] := by first | (simp [entryFrame, mkF, argsToLocals, Value.category]; done) | rfl
def Q34L (Z : State) (a1 : Addr) (a2 : Addr) (b1 : Addr) (b2 : Addr) (c1 : Cell) (c2 : Cell) (y0 : Int32) (cs : Int32) (h0 : Heap) (n0 : Nat) (v : Option Value) (h : Heap) (L : List Loc) : Prop := v = some (.int (1 : Int32)) ∧ Fr n0 L ∧ h = h0
set_option maxRecDepth 65536 in
set_option maxHeartbeats 40000000 in
theorem rm34L (l : Launch) (Z : State) (a0 : Array Value) (hw : ∀ d ∈ tables_1, d.before a0 Z = true) (ws : List Jvm.Cond) (a1 : Addr) (a2 : Addr) (b1 : Addr) (b2 : Addr) (c1 : Cell) (c2 : Cell) (y0 : Int32) (cs : Int32) (h0 : Heap) (n0 : Nat) (Z0 : n0 ≤ h0.size) (E_a1 : Exa Z h0 a1 "java/lang/String") (E_a2 : Exa Z h0 a2 "java/lang/String") (ne_a1_a2 : a1 ≠ a2) (F_value_a1 : Fld Z h0 a1 "java/lang/String" "value" "[B" (.ref b1)) (F_value_a2 : Fld Z h0 a2 "java/lang/String" "value" "[B" (.ref b2)) (F_coder_a1 : Fld Z h0 a1 "java/lang/String" "coder" "B" (.int (0 : Int32))) (F_coder_a2 : Fld Z h0 a2 "java/lang/String" "coder" "B" (.int (0 : Int32))) (Ar_b1 : Arr Z h0 b1 c1 .byte) (Ar_b2 : Arr Z h0 b2 c2 .byte) (z1 : c1.slots.size = 1) (z2 : c2.slots.size = 1) (x0c1 : c1.slots[0]? = some (.int y0)) (x0c2 : c2.slots[0]? = some (.int y0)) (O : Old Z n0 h0) (Zs_COMPACT_STRINGS : Sta Z Z.heap "java/lang/String" "COMPACT_STRINGS" "Z" (.int cs)) (hcs : ¬ cs = (0 : Int32)) :
    MetFree l (⟨"java/lang/String", "equals", "(Ljava/lang/Object;)Z"⟩ : MethodName) (head1 (Jvm.Cond.code (⟨"java/lang/String", "equals", "(Ljava/lang/Object;)Z"⟩ : MethodName) jdk_42_method_66_code 3 (some .boolean) :: ws) ({ frames := 1, cells := 0, slots := 0, locals := 14 } : Room)) (fun a U => a = #[(.ref a1), (.ref a2)] ∧ Z.Warmed39 U.vm ∧ U.heap = h0) (fun _ _ _ _ _ => True) (fun _ U o U' => ∃ v L, o = .returned v ∧ Q34L Z a1 a2 b1 b2 c1 c2 y0 cs h0 n0 v U'.heap L ∧ FrameEnd U o U' L ({ frames := 1, cells := 0, slots := 0, locals := 14 } : Room).cells ({ frames := 1, cells := 0, slots := 0, locals := 14 } : Room).slots) := by
  refine MetFree.of_bodySF (plainFor_of_name pn_34) hisR ?_
  intro p e s m args below meth c s₁ Bd hml0 hP hK
  obtain ⟨rfl, hZ, hh⟩ := hP
  have hx := Bd.exec
  have hby := Bd.bytes
  have hml : c.maxLocals = 3 := hml0
  have hown : s.vm.findClass "java/lang/String" = some m.cls := findClass_of_methodNamed Bd.named
  have hnm := (name_of_methodNamed Bd.named Bd.method).1
  have X0 : Stand p l e ({ frames := 1, cells := 0, slots := 0, locals := 14 } : Room) s m #[(.ref a1), (.ref a2)] below meth c s₁ [] 0 0 := Stand.of_body Bd
  have e0 : s₁.heap = h0 := by rw [← hh, Bd.state]; rfl
  have N0 := Fr.nil n0
  have pre0 : ∀ t, Steps p.tables e below (s₁.setTop (mkF m 0 #[.val (.ref a1), .val (.ref a2), .unset] [])) t → Steps p.tables e below (s₁.setTop (entryFrame m #[(.ref a1), (.ref a2)] 3)) t := fun t k => castTop (ef_34_xx m a1 a2) k
  have J1 : ∀ t, Steps p.tables e below (s₁.setTop (mkF m 8 #[.val (.ref a1), .val (.ref a2), .unset] [(.ref a2)])) t → Steps p.tables e below (s₁.setTop (entryFrame m #[(.ref a1), (.ref a2)] 3)) t := fun t k => pre0 t (by
      show Steps p.tables e below (s₁.setTop (mkF m 0 #[.val (.ref a1), .val (.ref a2), .unset] [])) _
      refine XS.aloadN X0.here hx rfl (hb hby d34_0) rfl rfl ?_
      show Steps p.tables e below (s₁.setTop (mkF m 1 #[.val (.ref a1), .val (.ref a2), .unset] [(.ref a1)])) _
      refine XS.aloadN X0.here hx rfl (hb hby d34_1) rfl rfl ?_
      show Steps p.tables e below (s₁.setTop (mkF m 2 #[.val (.ref a1), .val (.ref a2), .unset] [(.ref a2), (.ref a1)])) _
      refine Jvm.RoadKit.acmp (g := (mkF m 2 #[.val (.ref a1), .val (.ref a2), .unset] [(.ref a2), (.ref a1)])) X0 hx rfl rfl rfl (pc0 := 2) (pc' := 7) (same := false) rfl (hb hby d34_2) rfl (decide_eq_false fun q => ne_a1_a2 (Value.ref.inj q)) (by decide) (by decide) ?_
      show Steps p.tables e below (s₁.setTop (mkF m 7 #[.val (.ref a1), .val (.ref a2), .unset] [])) _
      refine XS.aloadN X0.here hx rfl (hb hby d34_7) rfl rfl ?_
      exact k)
  obtain ⟨T2, X2, e2, st2⟩ := instY X0 hx hZ hown (hw _ (List.mem_of_getElem? (i := 200) rfl)) e0 (Ins.self E_a2) (g := (mkF m 8 #[.val (.ref a1), .val (.ref a2), .unset] [(.ref a2)])) rfl rfl (hb hby d34_8)
  have J3 : ∀ t, Steps p.tables e below (T2.setTop (mkF m 11 #[.val (.ref a1), .val (.ref a2), .unset] [(.int (1 : Int32))])) t → Steps p.tables e below (s₁.setTop (entryFrame m #[(.ref a1), (.ref a2)] 3)) t := fun t k => J1 t (st2 t k)
  have J4 : ∀ t, Steps p.tables e below (T2.setTop (mkF m 15 #[.val (.ref a1), .val (.ref a2), .unset] [(.ref a2)])) t → Steps p.tables e below (s₁.setTop (entryFrame m #[(.ref a1), (.ref a2)] 3)) t := fun t k => J3 t (by
      show Steps p.tables e below (T2.setTop (mkF m 11 #[.val (.ref a1), .val (.ref a2), .unset] [(.int (1 : Int32))])) _
      refine XS.ifNo X2.here hx rfl (hb hby d34_11) rfl ((if0 _ _).trans (feq (by decide)).1) ?_
      show Steps p.tables e below (T2.setTop (mkF m 14 #[.val (.ref a1), .val (.ref a2), .unset] [])) _
      refine XS.aloadN X2.here hx rfl (hb hby d34_14) rfl rfl ?_
      exact k)
  obtain ⟨T5, X5, e5, st5⟩ := castY X2 hx hZ hown (hw _ (List.mem_of_getElem? (i := 200) rfl)) e2 (Ins.self E_a2) (g := (mkF m 15 #[.val (.ref a1), .val (.ref a2), .unset] [(.ref a2)])) rfl rfl (hb hby d34_15)
  have J6 : ∀ t, Steps p.tables e below (T5.setTop (mkF m 18 #[.val (.ref a1), .val (.ref a2), .unset] [(.ref a2)])) t → Steps p.tables e below (s₁.setTop (entryFrame m #[(.ref a1), (.ref a2)] 3)) t := fun t k => J4 t (st5 t k)
  have J7 : ∀ t, Steps p.tables e below (T5.setTop (mkF m 19 #[.val (.ref a1), .val (.ref a2), .val (.ref a2)] [])) t → Steps p.tables e below (s₁.setTop (entryFrame m #[(.ref a1), (.ref a2)] 3)) t := fun t k => J6 t (by
      show Steps p.tables e below (T5.setTop (mkF m 18 #[.val (.ref a1), .val (.ref a2), .unset] [(.ref a2)])) _
      refine XS.astoreN X5.here hx rfl (hb hby d34_18) rfl rfl (l' := #[.val (.ref a1), .val (.ref a2), .val (.ref a2)]) rfl ?_
      exact k)
  obtain ⟨T8, X8, e8, st8⟩ := getS2 X5 hx hZ hown (host := "") (Or.inl (hw _ (List.mem_of_getElem? (i := 132) rfl))) Via.refl e5 (Zs_COMPACT_STRINGS.ext O.2) (g := (mkF m 19 #[.val (.ref a1), .val (.ref a2), .val (.ref a2)] [])) rfl (hb hby d34_19)
  have J9 : ∀ t, Steps p.tables e below (T8.setTop (mkF m 22 #[.val (.ref a1), .val (.ref a2), .val (.ref a2)] [(.int cs)])) t → Steps p.tables e below (s₁.setTop (entryFrame m #[(.ref a1), (.ref a2)] 3)) t := fun t k => J7 t (st8 t k)
  have J10 : ∀ t, Steps p.tables e below (T8.setTop (mkF m 26 #[.val (.ref a1), .val (.ref a2), .val (.ref a2)] [(.ref a1)])) t → Steps p.tables e below (s₁.setTop (entryFrame m #[(.ref a1), (.ref a2)] 3)) t := fun t k => J9 t (by
      show Steps p.tables e below (T8.setTop (mkF m 22 #[.val (.ref a1), .val (.ref a2), .val (.ref a2)] [(.int cs)])) _
      refine XS.ifNo X8.here hx rfl (hb hby d34_22) rfl ((if0 _ _).trans (feq hcs).1) ?_
      show Steps p.tables e below (T8.setTop (mkF m 25 #[.val (.ref a1), .val (.ref a2), .val (.ref a2)] [])) _
      refine XS.aloadN X8.here hx rfl (hb hby d34_25) rfl rfl ?_
      exact k)
  obtain ⟨T11, X11, e11, st11⟩ := getF X8 hx hZ hown (host := "") (Or.inl (hw _ (List.mem_of_getElem? (i := 143) rfl))) Via.refl e8 F_coder_a1 (g := (mkF m 26 #[.val (.ref a1), .val (.ref a2), .val (.ref a2)] [(.ref a1)])) rfl rfl (hb hby d34_26)
  have J12 : ∀ t, Steps p.tables e below (T11.setTop (mkF m 29 #[.val (.ref a1), .val (.ref a2), .val (.ref a2)] [(.int (0 : Int32))])) t → Steps p.tables e below (s₁.setTop (entryFrame m #[(.ref a1), (.ref a2)] 3)) t := fun t k => J10 t (st11 t k)
  have J13 : ∀ t, Steps p.tables e below (T11.setTop (mkF m 30 #[.val (.ref a1), .val (.ref a2), .val (.ref a2)] [(.ref a2), (.int (0 : Int32))])) t → Steps p.tables e below (s₁.setTop (entryFrame m #[(.ref a1), (.ref a2)] 3)) t := fun t k => J12 t (by
      show Steps p.tables e below (T11.setTop (mkF m 29 #[.val (.ref a1), .val (.ref a2), .val (.ref a2)] [(.int (0 : Int32))])) _
      refine XS.aloadN X11.here hx rfl (hb hby d34_29) rfl rfl ?_
      exact k)
  obtain ⟨T14, X14, e14, st14⟩ := getF X11 hx hZ hown (host := "") (Or.inl (hw _ (List.mem_of_getElem? (i := 143) rfl))) Via.refl e11 F_coder_a2 (g := (mkF m 30 #[.val (.ref a1), .val (.ref a2), .val (.ref a2)] [(.ref a2), (.int (0 : Int32))])) rfl rfl (hb hby d34_30)
  have J15 : ∀ t, Steps p.tables e below (T14.setTop (mkF m 33 #[.val (.ref a1), .val (.ref a2), .val (.ref a2)] [(.int (0 : Int32)), (.int (0 : Int32))])) t → Steps p.tables e below (s₁.setTop (entryFrame m #[(.ref a1), (.ref a2)] 3)) t := fun t k => J13 t (st14 t k)
  have J16 : ∀ t, Steps p.tables e below (T14.setTop (mkF m 37 #[.val (.ref a1), .val (.ref a2), .val (.ref a2)] [(.ref a1)])) t → Steps p.tables e below (s₁.setTop (entryFrame m #[(.ref a1), (.ref a2)] 3)) t := fun t k => J15 t (by
      show Steps p.tables e below (T14.setTop (mkF m 33 #[.val (.ref a1), .val (.ref a2), .val (.ref a2)] [(.int (0 : Int32)), (.int (0 : Int32))])) _
      refine XS.icmpNo X14.here hx rfl (hb hby d34_33) rfl (teq rfl).2 ?_
      show Steps p.tables e below (T14.setTop (mkF m 36 #[.val (.ref a1), .val (.ref a2), .val (.ref a2)] [])) _
      refine XS.aloadN X14.here hx rfl (hb hby d34_36) rfl rfl ?_
      exact k)
  obtain ⟨T17, X17, e17, st17⟩ := getF X14 hx hZ hown (host := "") (Or.inl (hw _ (List.mem_of_getElem? (i := 144) rfl))) Via.refl e14 F_value_a1 (g := (mkF m 37 #[.val (.ref a1), .val (.ref a2), .val (.ref a2)] [(.ref a1)])) rfl rfl (hb hby d34_37)
  have J18 : ∀ t, Steps p.tables e below (T17.setTop (mkF m 40 #[.val (.ref a1), .val (.ref a2), .val (.ref a2)] [(.ref b1)])) t → Steps p.tables e below (s₁.setTop (entryFrame m #[(.ref a1), (.ref a2)] 3)) t := fun t k => J16 t (st17 t k)
  have J19 : ∀ t, Steps p.tables e below (T17.setTop (mkF m 41 #[.val (.ref a1), .val (.ref a2), .val (.ref a2)] [(.ref a2), (.ref b1)])) t → Steps p.tables e below (s₁.setTop (entryFrame m #[(.ref a1), (.ref a2)] 3)) t := fun t k => J18 t (by
      show Steps p.tables e below (T17.setTop (mkF m 40 #[.val (.ref a1), .val (.ref a2), .val (.ref a2)] [(.ref b1)])) _
      refine XS.aloadN X17.here hx rfl (hb hby d34_40) rfl rfl ?_
      exact k)
  obtain ⟨T20, X20, e20, st20⟩ := getF X17 hx hZ hown (host := "") (Or.inl (hw _ (List.mem_of_getElem? (i := 144) rfl))) Via.refl e17 F_value_a2 (g := (mkF m 41 #[.val (.ref a1), .val (.ref a2), .val (.ref a2)] [(.ref a2), (.ref b1)])) rfl rfl (hb hby d34_41)
  have J21 : ∀ t, Steps p.tables e below (T20.setTop (mkF m 44 #[.val (.ref a1), .val (.ref a2), .val (.ref a2)] [(.ref b2), (.ref b1)])) t → Steps p.tables e below (s₁.setTop (entryFrame m #[(.ref a1), (.ref a2)] 3)) t := fun t k => J19 t (st20 t k)
  obtain ⟨_, _, ⟨T22, L22, k22, n22⟩, -, X22, ⟨Lc22, hQ22, l22, y22, z22⟩, st22⟩ := Jvm.LawKit.callS X20 hx (y := (⟨"java/lang/StringLatin1", "equals", "([B[B)Z"⟩ : MethodName)) hown (mvT hZ (hw _ (List.mem_of_getElem? (i := 212) rfl))) (mvT hZ (hw _ (List.mem_of_getElem? (i := 213) rfl))) (mvT hZ (hw _ (List.mem_of_getElem? (i := 198) rfl))) (mvT hZ (hw _ (List.mem_of_getElem? (i := 214) rfl))) (by decide) (backOf (W := 0) (rm35L l Z a0 hw [] b1 b2 c1 c2 y0 h0 n0 Z0 Ar_b1 Ar_b2 (by assumption) (by assumption) (by assumption) (by assumption)) hZ (hw _ (List.mem_of_getElem? (i := 214) rfl)) (hw _ (List.mem_of_getElem? (i := 198) rfl)) (by decide) (by decide)) (g := (mkF m 44 #[.val (.ref a1), .val (.ref a2), .val (.ref a2)] [(.ref b2), (.ref b1)])) rfl (by rw [hml]; rfl) (argsL := [(.ref b1), (.ref b2)]) (rest := []) (lenOf pd_24 rfl) rfl (by show 2 * 0 + _ ≤ _; exact Nat.le_of_eq rfl) (hb hby d34_44) (fun _ _ => ⟨rfl, e20, (by decide : 0 + 0 ≤ _), (by decide : 0 + 0 ≤ _)⟩)
  dsimp only [Pt.U, Pt.locs, Pt.cells, Pt.slots] at X22 l22 y22 z22 st22 hQ22
  subst y22 z22
  obtain ⟨rfl, Nq22, e22⟩ := hQ22
  have N23 : Fr n0 L22 := by rw [l22]; exact Fr.app N0 Nq22
  have J24 : ∀ t, Steps p.tables e below (T22.setTop (mkF m 47 #[.val (.ref a1), .val (.ref a2), .val (.ref a2)] [(.int (1 : Int32))])) t → Steps p.tables e below (s₁.setTop (entryFrame m #[(.ref a1), (.ref a2)] 3)) t := fun t k => J21 t (st22 t k)
  have J25 : ∀ t, Steps p.tables e below (T22.setTop (mkF m 55 #[.val (.ref a1), .val (.ref a2), .val (.ref a2)] [(.int (1 : Int32))])) t → Steps p.tables e below (s₁.setTop (entryFrame m #[(.ref a1), (.ref a2)] 3)) t := fun t k => J24 t (by
      show Steps p.tables e below (T22.setTop (mkF m 47 #[.val (.ref a1), .val (.ref a2), .val (.ref a2)] [(.int (1 : Int32))])) _
      refine XS.ifNo X22.here hx rfl (hb hby d34_47) rfl ((if0 _ _).trans (feq (by decide)).1) ?_
      show Steps p.tables e below (T22.setTop (mkF m 50 #[.val (.ref a1), .val (.ref a2), .val (.ref a2)] [])) _
      refine XS.iconst X22.here hx rfl (hb hby d34_50) ?_
      show Steps p.tables e below (T22.setTop (mkF m 51 #[.val (.ref a1), .val (.ref a2), .val (.ref a2)] [(.int (1 : Int32))])) _
      refine XS.goto X22.here hx rfl (pc0 := 51) (pc' := 55) rfl (hb hby d34_51) (by decide) (by decide) ?_
      exact k)
  obtain ⟨fs, hr, hrun, hended, hW, hsame⟩ := X22.leave (v := some (.int (1 : Int32))) (fun h => by rw [Bd.returns] at h; cases h)
  refine ⟨_, _, J25 _ ?_, hrun, hended, _, _, rfl, ?_, ⟨_, rfl⟩, hW, hsame.mono (by decide) (by decide)⟩
  · show Steps p.tables e below (T22.setTop (mkF m 55 #[.val (.ref a1), .val (.ref a2), .val (.ref a2)] [(.int (1 : Int32))])) _
    exact retN X22 hx (t := .boolean) Bd.returns (by simp) (hb hby d34_55) hr
  · show Q34L Z a1 a2 b1 b2 c1 c2 y0 cs h0 n0 _ T22.heap _
    rw [e22]
    exact ⟨rfl, N23, rfl⟩
theorem d21_23 : decode jdk_52_method_21_code 23 = .ok (.iload 5, 2) := by decide +kernel
theorem d21_25 : decode jdk_52_method_21_code 25 = .ok (.ireturn, 1) := by decide +kernel
def Q21U (Z : State) (ca : Addr) (ccl : Cell) (ch : Int32) (ba : Addr) (bcl : Cell) (h0 : Heap) (n0 : Nat) (v : Option Value) (h : Heap) (L : List Loc) : Prop := ∃ (bcl' : Cell), v = some (.int (0 : Int32)) ∧ Fr n0 L ∧ Keep h0 h [ba] ∧ (Arr Z h ba bcl' .byte) ∧ (bcl'.slots.size = 1)
set_option maxRecDepth 65536 in
set_option maxHeartbeats 40000000 in
theorem rm21U (l : Launch) (Z : State) (a0 : Array Value) (hw : ∀ d ∈ tables_1, d.before a0 Z = true) (ws : List Jvm.Cond) (ca : Addr) (ccl : Cell) (ch : Int32) (ba : Addr) (bcl : Cell) (h0 : Heap) (n0 : Nat) (Z0 : n0 ≤ h0.size) (Ar_ca : Arr Z h0 ca ccl .char) (hcz : ccl.slots.size = 256) (hc0 : ccl.slots[0]? = some (.int ch)) (Ar_ba : Arr Z h0 ba bcl .byte) (hbz : bcl.slots.size = 1) (g_ba : n0 ≤ ba) (ne_ca_ba : ca ≠ ba) (hk : (255 : Int32) < ch) :
    MetFree l (⟨"java/lang/StringUTF16", "compress", "([CI[BII)I"⟩ : MethodName) (head1 (Jvm.Cond.code (⟨"java/lang/StringUTF16", "compress", "([CI[BII)I"⟩ : MethodName) jdk_52_method_21_code 7 (some .int) :: ws) ({ frames := 0, cells := 0, slots := 0, locals := 0 } : Room)) (fun a U => a = #[(.ref ca), (.int (0 : Int32)), (.ref ba), (.int (0 : Int32)), (.int (1 : Int32))] ∧ Z.Warmed39 U.vm ∧ U.heap = h0) (fun _ _ _ _ _ => True) (fun _ U o U' => ∃ v L, o = .returned v ∧ Q21U Z ca ccl ch ba bcl h0 n0 v U'.heap L ∧ FrameEnd U o U' L ({ frames := 0, cells := 0, slots := 0, locals := 0 } : Room).cells ({ frames := 0, cells := 0, slots := 0, locals := 0 } : Room).slots) := by
  refine MetFree.of_bodySF (plainFor_of_name pn_21) hisR ?_
  intro p e s m args below meth c s₁ Bd hml0 hP hK
  obtain ⟨rfl, hZ, hh⟩ := hP
  have hx := Bd.exec
  have hby := Bd.bytes
  have hml : c.maxLocals = 7 := hml0
  have hown : s.vm.findClass "java/lang/StringUTF16" = some m.cls := findClass_of_methodNamed Bd.named
  have hnm := (name_of_methodNamed Bd.named Bd.method).1
  have X0 : Stand p l e ({ frames := 0, cells := 0, slots := 0, locals := 0 } : Room) s m #[(.ref ca), (.int (0 : Int32)), (.ref ba), (.int (0 : Int32)), (.int (1 : Int32))] below meth c s₁ [] 0 0 := Stand.of_body Bd
  have e0 : s₁.heap = h0 := by rw [← hh, Bd.state]; rfl
  have N0 := Fr.nil n0
  have pre0 : ∀ t, Steps p.tables e below (s₁.setTop (mkF m 0 #[.val (.ref ca), .val (.int (0 : Int32)), .val (.ref ba), .val (.int (0 : Int32)), .val (.int (1 : Int32)), .unset, .unset] [])) t → Steps p.tables e below (s₁.setTop (entryFrame m #[(.ref ca), (.int (0 : Int32)), (.ref ba), (.int (0 : Int32)), (.int (1 : Int32))] 7)) t := fun t k => castTop (ef_21_xxxxx m ca (0 : Int32) ba (0 : Int32) (1 : Int32)) k
  have J1 : ∀ t, Steps p.tables e below (s₁.setTop (mkF m 25 #[.val (.ref ca), .val (.int (0 : Int32)), .val (.ref ba), .val (.int (0 : Int32)), .val (.int (1 : Int32)), .val (.int (0 : Int32)), .val (.int ch)] [(.int (0 : Int32))])) t → Steps p.tables e below (s₁.setTop (entryFrame m #[(.ref ca), (.int (0 : Int32)), (.ref ba), (.int (0 : Int32)), (.int (1 : Int32))] 7)) t := fun t k => pre0 t (by
      show Steps p.tables e below (s₁.setTop (mkF m 0 #[.val (.ref ca), .val (.int (0 : Int32)), .val (.ref ba), .val (.int (0 : Int32)), .val (.int (1 : Int32)), .unset, .unset] [])) _
      refine XS.iconst X0.here hx rfl (hb hby d21_0) ?_
      show Steps p.tables e below (s₁.setTop (mkF m 1 #[.val (.ref ca), .val (.int (0 : Int32)), .val (.ref ba), .val (.int (0 : Int32)), .val (.int (1 : Int32)), .unset, .unset] [(.int (0 : Int32))])) _
      refine XS.istore X0.here hx rfl (hb hby d21_1) rfl (l' := #[.val (.ref ca), .val (.int (0 : Int32)), .val (.ref ba), .val (.int (0 : Int32)), .val (.int (1 : Int32)), .val (.int (0 : Int32)), .unset]) rfl ?_
      show Steps p.tables e below (s₁.setTop (mkF m 3 #[.val (.ref ca), .val (.int (0 : Int32)), .val (.ref ba), .val (.int (0 : Int32)), .val (.int (1 : Int32)), .val (.int (0 : Int32)), .unset] [])) _
      refine XS.iload X0.here hx rfl (hb hby d21_3) rfl ?_
      show Steps p.tables e below (s₁.setTop (mkF m 5 #[.val (.ref ca), .val (.int (0 : Int32)), .val (.ref ba), .val (.int (0 : Int32)), .val (.int (1 : Int32)), .val (.int (0 : Int32)), .unset] [(.int (0 : Int32))])) _
      refine XS.iload X0.here hx rfl (hb hby d21_5) rfl ?_
      show Steps p.tables e below (s₁.setTop (mkF m 7 #[.val (.ref ca), .val (.int (0 : Int32)), .val (.ref ba), .val (.int (0 : Int32)), .val (.int (1 : Int32)), .val (.int (0 : Int32)), .unset] [(.int (1 : Int32)), (.int (0 : Int32))])) _
      refine XS.icmpNo X0.here hx rfl (hb hby d21_7) rfl (tlt (by decide)).2.1 ?_
      show Steps p.tables e below (s₁.setTop (mkF m 10 #[.val (.ref ca), .val (.int (0 : Int32)), .val (.ref ba), .val (.int (0 : Int32)), .val (.int (1 : Int32)), .val (.int (0 : Int32)), .unset] [])) _
      refine XS.aloadN X0.here hx rfl (hb hby d21_10) rfl rfl ?_
      show Steps p.tables e below (s₁.setTop (mkF m 11 #[.val (.ref ca), .val (.int (0 : Int32)), .val (.ref ba), .val (.int (0 : Int32)), .val (.int (1 : Int32)), .val (.int (0 : Int32)), .unset] [(.ref ca)])) _
      refine XS.iloadN X0.here hx rfl (hb hby d21_11) rfl ?_
      show Steps p.tables e below (s₁.setTop (mkF m 12 #[.val (.ref ca), .val (.int (0 : Int32)), .val (.ref ba), .val (.int (0 : Int32)), .val (.int (1 : Int32)), .val (.int (0 : Int32)), .unset] [(.int (0 : Int32)), (.ref ca)])) _
      refine X0.caload hx (j := (0 : Int32)) (v := (.int ch)) (by rw [e0]; exact Ar_ca.1) (State.isArrayOf_alike hZ.alike Ar_ca.2.1) Ar_ca.2.2 (own_in hcz (by decide) (by decide)) (own_at (by decide) hc0) (g := (mkF m 12 #[.val (.ref ca), .val (.int (0 : Int32)), .val (.ref ba), .val (.int (0 : Int32)), .val (.int (1 : Int32)), .val (.int (0 : Int32)), .unset] [(.int (0 : Int32)), (.ref ca)])) rfl rfl (hb hby d21_12) _ ?_
      show Steps p.tables e below (s₁.setTop (mkF m 13 #[.val (.ref ca), .val (.int (0 : Int32)), .val (.ref ba), .val (.int (0 : Int32)), .val (.int (1 : Int32)), .val (.int (0 : Int32)), .unset] [(.int ch)])) _
      refine XS.istore X0.here hx rfl (hb hby d21_13) rfl (l' := #[.val (.ref ca), .val (.int (0 : Int32)), .val (.ref ba), .val (.int (0 : Int32)), .val (.int (1 : Int32)), .val (.int (0 : Int32)), .val (.int ch)]) rfl ?_
      show Steps p.tables e below (s₁.setTop (mkF m 15 #[.val (.ref ca), .val (.int (0 : Int32)), .val (.ref ba), .val (.int (0 : Int32)), .val (.int (1 : Int32)), .val (.int (0 : Int32)), .val (.int ch)] [])) _
      refine XS.iload X0.here hx rfl (hb hby d21_15) rfl ?_
      show Steps p.tables e below (s₁.setTop (mkF m 17 #[.val (.ref ca), .val (.int (0 : Int32)), .val (.ref ba), .val (.int (0 : Int32)), .val (.int (1 : Int32)), .val (.int (0 : Int32)), .val (.int ch)] [(.int ch)])) _
      refine XS.sipush X0.here hx rfl (hb hby d21_17) ?_
      show Steps p.tables e below (s₁.setTop (mkF m 20 #[.val (.ref ca), .val (.int (0 : Int32)), .val (.ref ba), .val (.int (0 : Int32)), .val (.int (1 : Int32)), .val (.int (0 : Int32)), .val (.int ch)] [(.int (255 : Int32)), (.int ch)])) _
      refine XS.icmpNo X0.here hx rfl (hb hby d21_20) rfl (tlt hk).2.2.2 ?_
      show Steps p.tables e below (s₁.setTop (mkF m 23 #[.val (.ref ca), .val (.int (0 : Int32)), .val (.ref ba), .val (.int (0 : Int32)), .val (.int (1 : Int32)), .val (.int (0 : Int32)), .val (.int ch)] [])) _
      refine XS.iload X0.here hx rfl (hb hby d21_23) rfl ?_
      exact k)
  obtain ⟨fs, hr, hrun, hended, hW, hsame⟩ := X0.leave (v := some (.int (0 : Int32))) (fun h => by rw [Bd.returns] at h; cases h)
  refine ⟨_, _, J1 _ ?_, hrun, hended, _, _, rfl, ?_, ⟨_, rfl⟩, hW, hsame.mono (by decide) (by decide)⟩
  · show Steps p.tables e below (s₁.setTop (mkF m 25 #[.val (.ref ca), .val (.int (0 : Int32)), .val (.ref ba), .val (.int (0 : Int32)), .val (.int (1 : Int32)), .val (.int (0 : Int32)), .val (.int ch)] [(.int (0 : Int32))])) _
    exact retI X0 hx Bd.returns (hb hby d21_25) hr
  · show Q21U Z ca ccl ch ba bcl h0 n0 _ s₁.heap _
    rw [e0]
    exact ⟨bcl, rfl, N0, (Keep.refl h0 [ba]), Ar_ba, hbz⟩
theorem d20_20 : decode jdk_52_method_16_code 20 = .ok (.aload_n 0, 1) := by decide +kernel
theorem d20_21 : decode jdk_52_method_16_code 21 = .ok (.iload_n 1, 1) := by decide +kernel
theorem d20_22 : decode jdk_52_method_16_code 22 = .ok (.iload_n 2, 1) := by decide +kernel
theorem d20_23 : decode jdk_52_method_16_code 23 = .ok (.invokestatic 119, 3) := by decide +kernel
theorem d20_26 : decode jdk_52_method_16_code 26 = .ok (.astore 5, 2) := by decide +kernel
theorem d20_28 : decode jdk_52_method_16_code 28 = .ok (.aload 5, 2) := by decide +kernel
theorem d20_30 : decode jdk_52_method_16_code 30 = .ok (.iload 4, 2) := by decide +kernel
theorem d20_32 : decode jdk_52_method_16_code 32 = .ok (.invokestatic 71, 3) := by decide +kernel
theorem pd_25 : parseMethodDescriptor "([BI)C" = some ⟨[(.array .byte), .int], some .char⟩ := by decide +kernel
theorem d20_35 : decode jdk_52_method_16_code 35 = .ok (.sipush 255, 3) := by decide +kernel
theorem d20_38 : decode jdk_52_method_16_code 38 = .ok (.if_icmp .gt 16, 3) := by decide +kernel
theorem d20_54 : decode jdk_52_method_16_code 54 = .ok (.aload 5, 2) := by decide +kernel
theorem d20_56 : decode jdk_52_method_16_code 56 = .ok (.areturn, 1) := by decide +kernel
def Q20U (Z : State) (ca : Addr) (ccl : Cell) (ch : Int32) (h0 : Heap) (n0 : Nat) (v : Option Value) (h : Heap) (L : List Loc) : Prop := ∃ (ba : Addr) (bcl : Cell), v = some (.ref ba) ∧ Fr n0 L ∧ Keep h0 h [] ∧ (Arr Z h ba bcl .byte) ∧ (bcl.slots.size = 2) ∧ (bcl.slots[0]? = some (.int (own_u0 ch))) ∧ (bcl.slots[1]? = some (.int (own_u1 ch))) ∧ (n0 ≤ ba) ∧ (h0.size ≤ ba)
set_option maxRecDepth 65536 in
set_option maxHeartbeats 40000000 in
theorem rm20U (l : Launch) (Z : State) (a0 : Array Value) (hw : ∀ d ∈ tables_1, d.before a0 Z = true) (ws : List Jvm.Cond) (ca : Addr) (ccl : Cell) (ch : Int32) (h0 : Heap) (n0 : Nat) (Z0 : n0 ≤ h0.size) (Ar_ca : Arr Z h0 ca ccl .char) (hcz : ccl.slots.size = 256) (hc0 : ccl.slots[0]? = some (.int ch)) (hk : (255 : Int32) < ch) (O : Old Z n0 h0) (Zs__assertionsDisabled : Sta Z Z.heap "java/lang/StringUTF16" "$assertionsDisabled" "Z" (.int (1 : Int32))) (Zs_HI_BYTE_SHIFT : Sta Z Z.heap "java/lang/StringUTF16" "HI_BYTE_SHIFT" "I" (.int (0 : Int32))) (Zs_LO_BYTE_SHIFT : Sta Z Z.heap "java/lang/StringUTF16" "LO_BYTE_SHIFT" "I" (.int (8 : Int32))) (hch : own_ch ch) :
    MetFree l (⟨"java/lang/StringUTF16", "compress", "([CII)[B"⟩ : MethodName) (head1 (Jvm.Cond.code (⟨"java/lang/StringUTF16", "compress", "([CII)[B"⟩ : MethodName) jdk_52_method_16_code 6 (some (.array .byte)) :: ws) ({ frames := 3, cells := 2, slots := 3, locals := 40 } : Room)) (fun a U => a = #[(.ref ca), (.int (0 : Int32)), (.int (1 : Int32))] ∧ Z.Warmed39 U.vm ∧ U.heap = h0) (fun _ _ _ _ _ => True) (fun _ U o U' => ∃ v L, o = .returned v ∧ Q20U Z ca ccl ch h0 n0 v U'.heap L ∧ FrameEnd U o U' L ({ frames := 3, cells := 2, slots := 3, locals := 40 } : Room).cells ({ frames := 3, cells := 2, slots := 3, locals := 40 } : Room).slots) := by
  refine MetFree.of_bodySF (plainFor_of_name pn_20) hisR ?_
  intro p e s m args below meth c s₁ Bd hml0 hP hK
  obtain ⟨rfl, hZ, hh⟩ := hP
  have hx := Bd.exec
  have hby := Bd.bytes
  have hml : c.maxLocals = 6 := hml0
  have hown : s.vm.findClass "java/lang/StringUTF16" = some m.cls := findClass_of_methodNamed Bd.named
  have hnm := (name_of_methodNamed Bd.named Bd.method).1
  have X0 : Stand p l e ({ frames := 3, cells := 2, slots := 3, locals := 40 } : Room) s m #[(.ref ca), (.int (0 : Int32)), (.int (1 : Int32))] below meth c s₁ [] 0 0 := Stand.of_body Bd
  have e0 : s₁.heap = h0 := by rw [← hh, Bd.state]; rfl
  have N0 := Fr.nil n0
  have pre0 : ∀ t, Steps p.tables e below (s₁.setTop (mkF m 0 #[.val (.ref ca), .val (.int (0 : Int32)), .val (.int (1 : Int32)), .unset, .unset, .unset] [])) t → Steps p.tables e below (s₁.setTop (entryFrame m #[(.ref ca), (.int (0 : Int32)), (.int (1 : Int32))] 6)) t := fun t k => castTop (ef_20_xxx m ca (0 : Int32) (1 : Int32)) k
  have J1 : ∀ t, Steps p.tables e below (s₁.setTop (mkF m 1 #[.val (.ref ca), .val (.int (0 : Int32)), .val (.int (1 : Int32)), .unset, .unset, .unset] [(.int (1 : Int32))])) t → Steps p.tables e below (s₁.setTop (entryFrame m #[(.ref ca), (.int (0 : Int32)), (.int (1 : Int32))] 6)) t := fun t k => pre0 t (by
      show Steps p.tables e below (s₁.setTop (mkF m 0 #[.val (.ref ca), .val (.int (0 : Int32)), .val (.int (1 : Int32)), .unset, .unset, .unset] [])) _
      refine XS.iloadN X0.here hx rfl (hb hby d20_0) rfl ?_
      exact k)
  obtain ⟨T2, h2, k2, X2, e2, E2, A2, st2⟩ := newP X0 hx hZ (hw _ (List.mem_of_getElem? (i := 6) rfl)) e0 (g := (mkF m 1 #[.val (.ref ca), .val (.int (0 : Int32)), .val (.int (1 : Int32)), .unset, .unset, .unset] [(.int (1 : Int32))])) rfl (hb hby d20_1) rfl (by decide) (cap := 1) (by decide) (by decide) (by decide) (by decide)
  obtain ⟨b2, g2⟩ : ∃ z, z = h0.size := ⟨_, rfl⟩
  rw [← g2] at A2 st2
  obtain ⟨cl2, hcl2⟩ : ∃ z, z = newA k2 .byte (1 : Int32) := ⟨_, rfl⟩
  have Aw2 : Arr Z h2 b2 cl2 .byte := by rw [hcl2]; exact A2
  have J3 : ∀ t, Steps p.tables e below (T2.setTop (mkF m 3 #[.val (.ref ca), .val (.int (0 : Int32)), .val (.int (1 : Int32)), .unset, .unset, .unset] [(.ref b2)])) t → Steps p.tables e below (s₁.setTop (entryFrame m #[(.ref ca), (.int (0 : Int32)), (.int (1 : Int32))] 6)) t := fun t k => J1 t (st2 t k)
  have ne4 : ca ≠ b2 := Nat.ne_of_lt (Nat.lt_of_lt_of_le Ar_ca.lt (Nat.le_of_eq g2.symm))
  have ge5 : n0 ≤ b2 := Nat.le_trans Z0 (Nat.le_of_eq g2.symm)
  have sz6 : h0.size ≤ b2 := Nat.le_trans (Keep.refl h0 []).1 (Nat.le_of_eq g2.symm)
  have Z7 : n0 ≤ h2.size := Nat.le_trans Z0 E2.1
  have KK8 : Keep h0 h2 [] := (Keep.refl h0 []).ext E2
  have hS2 : cl2.slots.size = 1 := by rw [hcl2, sz_new]; decide
  have J9 : ∀ t, Steps p.tables e below (T2.setTop (mkF m 9 #[.val (.ref ca), .val (.int (0 : Int32)), .val (.int (1 : Int32)), .val (.ref b2), .unset, .unset] [(.int (1 : Int32)), (.int (0 : Int32)), (.ref b2), (.int (0 : Int32)), (.ref ca)])) t → Steps p.tables e below (s₁.setTop (entryFrame m #[(.ref ca), (.int (0 : Int32)), (.int (1 : Int32))] 6)) t := fun t k => J3 t (by
      show Steps p.tables e below (T2.setTop (mkF m 3 #[.val (.ref ca), .val (.int (0 : Int32)), .val (.int (1 : Int32)), .unset, .unset, .unset] [(.ref b2)])) _
      refine XS.astoreN X2.here hx rfl (hb hby d20_3) rfl rfl (l' := #[.val (.ref ca), .val (.int (0 : Int32)), .val (.int (1 : Int32)), .val (.ref b2), .unset, .unset]) rfl ?_
      show Steps p.tables e below (T2.setTop (mkF m 4 #[.val (.ref ca), .val (.int (0 : Int32)), .val (.int (1 : Int32)), .val (.ref b2), .unset, .unset] [])) _
      refine XS.aloadN X2.here hx rfl (hb hby d20_4) rfl rfl ?_
      show Steps p.tables e below (T2.setTop (mkF m 5 #[.val (.ref ca), .val (.int (0 : Int32)), .val (.int (1 : Int32)), .val (.ref b2), .unset, .unset] [(.ref ca)])) _
      refine XS.iloadN X2.here hx rfl (hb hby d20_5) rfl ?_
      show Steps p.tables e below (T2.setTop (mkF m 6 #[.val (.ref ca), .val (.int (0 : Int32)), .val (.int (1 : Int32)), .val (.ref b2), .unset, .unset] [(.int (0 : Int32)), (.ref ca)])) _
      refine XS.aloadN X2.here hx rfl (hb hby d20_6) rfl rfl ?_
      show Steps p.tables e below (T2.setTop (mkF m 7 #[.val (.ref ca), .val (.int (0 : Int32)), .val (.int (1 : Int32)), .val (.ref b2), .unset, .unset] [(.ref b2), (.int (0 : Int32)), (.ref ca)])) _
      refine XS.iconst X2.here hx rfl (hb hby d20_7) ?_
      show Steps p.tables e below (T2.setTop (mkF m 8 #[.val (.ref ca), .val (.int (0 : Int32)), .val (.int (1 : Int32)), .val (.ref b2), .unset, .unset] [(.int (0 : Int32)), (.ref b2), (.int (0 : Int32)), (.ref ca)])) _
      refine XS.iloadN X2.here hx rfl (hb hby d20_8) rfl ?_
      exact k)
  have f10 := Ar_ca.ext E2
  obtain ⟨_, _, ⟨T11, L11, k11, n11⟩, -, X11, ⟨Lc11, hQ11, l11, y11, z11⟩, st11⟩ := Jvm.LawKit.callS X2 hx (y := (⟨"java/lang/StringUTF16", "compress", "([CI[BII)I"⟩ : MethodName)) hown (mvT hZ (hw _ (List.mem_of_getElem? (i := 137) rfl))) (mvT hZ (hw _ (List.mem_of_getElem? (i := 138) rfl))) (mvT hZ (hw _ (List.mem_of_getElem? (i := 135) rfl))) (mvT hZ (hw _ (List.mem_of_getElem? (i := 139) rfl))) (by decide) (backOf (W := 0) (rm21U l Z a0 hw [] ca ccl ch b2 cl2 h2 n0 Z7 f10 (by assumption) (by assumption) Aw2 hS2 ge5 ne4 (by assumption)) hZ (hw _ (List.mem_of_getElem? (i := 139) rfl)) (hw _ (List.mem_of_getElem? (i := 135) rfl)) (by decide) (by decide)) (g := (mkF m 9 #[.val (.ref ca), .val (.int (0 : Int32)), .val (.int (1 : Int32)), .val (.ref b2), .unset, .unset] [(.int (1 : Int32)), (.int (0 : Int32)), (.ref b2), (.int (0 : Int32)), (.ref ca)])) rfl (by rw [hml]; rfl) (argsL := [(.ref ca), (.int (0 : Int32)), (.ref b2), (.int (0 : Int32)), (.int (1 : Int32))]) (rest := []) (lenOf pd_13 rfl) rfl (by show 2 * 0 + _ ≤ _; exact Nat.le_of_eq rfl) (hb hby d20_9) (fun _ _ => ⟨rfl, e2, (by decide : 1 + 0 ≤ _), (by decide : 1 + 0 ≤ _)⟩)
  dsimp only [Pt.U, Pt.locs, Pt.cells, Pt.slots] at X11 l11 y11 z11 st11 hQ11
  subst y11 z11
  obtain ⟨bcl'_11, rfl, Nq11, K11, p11_1, p11_2⟩ := hQ11
  have N12 : Fr n0 L11 := by rw [l11]; exact Fr.app N0 Nq11
  have J13 : ∀ t, Steps p.tables e below (T11.setTop (mkF m 12 #[.val (.ref ca), .val (.int (0 : Int32)), .val (.int (1 : Int32)), .val (.ref b2), .unset, .unset] [(.int (0 : Int32))])) t → Steps p.tables e below (s₁.setTop (entryFrame m #[(.ref ca), (.int (0 : Int32)), (.int (1 : Int32))] 6)) t := fun t k => J9 t (st11 t k)
  have Z14 : n0 ≤ T11.heap.size := Nat.le_trans Z7 K11.1
  have KK15 : Keep h0 T11.heap [] := KK8.trans K11 (allS (Or.inr sz6) all0)
  have J16 : ∀ t, Steps p.tables e below (T11.setTop (mkF m 23 #[.val (.ref ca), .val (.int (0 : Int32)), .val (.int (1 : Int32)), .val (.ref b2), .val (.int (0 : Int32)), .unset] [(.int (1 : Int32)), (.int (0 : Int32)), (.ref ca)])) t → Steps p.tables e below (s₁.setTop (entryFrame m #[(.ref ca), (.int (0 : Int32)), (.int (1 : Int32))] 6)) t := fun t k => J13 t (by
      show Steps p.tables e below (T11.setTop (mkF m 12 #[.val (.ref ca), .val (.int (0 : Int32)), .val (.int (1 : Int32)), .val (.ref b2), .unset, .unset] [(.int (0 : Int32))])) _
      refine XS.istore X11.here hx rfl (hb hby d20_12) rfl (l' := #[.val (.ref ca), .val (.int (0 : Int32)), .val (.int (1 : Int32)), .val (.ref b2), .val (.int (0 : Int32)), .unset]) rfl ?_
      show Steps p.tables e below (T11.setTop (mkF m 14 #[.val (.ref ca), .val (.int (0 : Int32)), .val (.int (1 : Int32)), .val (.ref b2), .val (.int (0 : Int32)), .unset] [])) _
      refine XS.iload X11.here hx rfl (hb hby d20_14) rfl ?_
      show Steps p.tables e below (T11.setTop (mkF m 16 #[.val (.ref ca), .val (.int (0 : Int32)), .val (.int (1 : Int32)), .val (.ref b2), .val (.int (0 : Int32)), .unset] [(.int (0 : Int32))])) _
      refine XS.iloadN X11.here hx rfl (hb hby d20_16) rfl ?_
      show Steps p.tables e below (T11.setTop (mkF m 17 #[.val (.ref ca), .val (.int (0 : Int32)), .val (.int (1 : Int32)), .val (.ref b2), .val (.int (0 : Int32)), .unset] [(.int (1 : Int32)), (.int (0 : Int32))])) _
      refine XS.icmpNo X11.here hx rfl (hb hby d20_17) rfl (feq (by decide)).1 ?_
      show Steps p.tables e below (T11.setTop (mkF m 20 #[.val (.ref ca), .val (.int (0 : Int32)), .val (.int (1 : Int32)), .val (.ref b2), .val (.int (0 : Int32)), .unset] [])) _
      refine XS.aloadN X11.here hx rfl (hb hby d20_20) rfl rfl ?_
      show Steps p.tables e below (T11.setTop (mkF m 21 #[.val (.ref ca), .val (.int (0 : Int32)), .val (.int (1 : Int32)), .val (.ref b2), .val (.int (0 : Int32)), .unset] [(.ref ca)])) _
      refine XS.iloadN X11.here hx rfl (hb hby d20_21) rfl ?_
      show Steps p.tables e below (T11.setTop (mkF m 22 #[.val (.ref ca), .val (.int (0 : Int32)), .val (.int (1 : Int32)), .val (.ref b2), .val (.int (0 : Int32)), .unset] [(.int (0 : Int32)), (.ref ca)])) _
      refine XS.iloadN X11.here hx rfl (hb hby d20_22) rfl ?_
      exact k)
  have f17 : Arr Z T11.heap ca ccl .char := ⟨K11.2.1 _ _ f10.1 (ninS ne4 nin0), f10.2⟩
  have f18 := O.ext E2
  have f19 := f18.keep K11 (allS ge5 all0)
  obtain ⟨_, _, ⟨T20, L20, k20, n20⟩, -, X20, ⟨Lc20, hQ20, l20, y20, z20⟩, st20⟩ := Jvm.LawKit.callS X11 hx (y := (⟨"java/lang/StringUTF16", "toBytes", "([CII)[B"⟩ : MethodName)) hown (mvT hZ (hw _ (List.mem_of_getElem? (i := 215) rfl))) (mvT hZ (hw _ (List.mem_of_getElem? (i := 216) rfl))) (mvT hZ (hw _ (List.mem_of_getElem? (i := 135) rfl))) (mvT hZ (hw _ (List.mem_of_getElem? (i := 217) rfl))) (by decide) (backOf (W := 0) (rm36 l Z a0 hw [] ca ccl ch T11.heap n0 Z14 f17 (by assumption) (by assumption) f19 Zs__assertionsDisabled Zs_HI_BYTE_SHIFT Zs_LO_BYTE_SHIFT) hZ (hw _ (List.mem_of_getElem? (i := 217) rfl)) (hw _ (List.mem_of_getElem? (i := 135) rfl)) (by decide) (by decide)) (g := (mkF m 23 #[.val (.ref ca), .val (.int (0 : Int32)), .val (.int (1 : Int32)), .val (.ref b2), .val (.int (0 : Int32)), .unset] [(.int (1 : Int32)), (.int (0 : Int32)), (.ref ca)])) rfl (by rw [hml]; rfl) (argsL := [(.ref ca), (.int (0 : Int32)), (.int (1 : Int32))]) (rest := []) (lenOf pd_14 rfl) rfl (by show 2 * 0 + _ ≤ _; exact Nat.le_of_eq rfl) (hb hby d20_23) (fun _ _ => ⟨rfl, rfl, (by decide : 1 + 1 ≤ _), (by decide : 1 + 2 ≤ _)⟩)
  dsimp only [Pt.U, Pt.locs, Pt.cells, Pt.slots] at X20 l20 y20 z20 st20 hQ20
  subst y20 z20
  obtain ⟨ba_20, bcl_20, rfl, Nq20, K20, p20_1, p20_2, p20_3, p20_4, p20_5, p20_6⟩ := hQ20
  have N21 : Fr n0 L20 := by rw [l20]; exact Fr.app N12 Nq20
  have J22 : ∀ t, Steps p.tables e below (T20.setTop (mkF m 26 #[.val (.ref ca), .val (.int (0 : Int32)), .val (.int (1 : Int32)), .val (.ref b2), .val (.int (0 : Int32)), .unset] [(.ref ba_20)])) t → Steps p.tables e below (s₁.setTop (entryFrame m #[(.ref ca), (.int (0 : Int32)), (.int (1 : Int32))] 6)) t := fun t k => J16 t (st20 t k)
  have Z23 : n0 ≤ T20.heap.size := Nat.le_trans Z14 K20.1
  have KK24 : Keep h0 T20.heap [] := KK15.trans K20 all0
  have J25 : ∀ t, Steps p.tables e below (T20.setTop (mkF m 32 #[.val (.ref ca), .val (.int (0 : Int32)), .val (.int (1 : Int32)), .val (.ref b2), .val (.int (0 : Int32)), .val (.ref ba_20)] [(.int (0 : Int32)), (.ref ba_20)])) t → Steps p.tables e below (s₁.setTop (entryFrame m #[(.ref ca), (.int (0 : Int32)), (.int (1 : Int32))] 6)) t := fun t k => J22 t (by
      show Steps p.tables e below (T20.setTop (mkF m 26 #[.val (.ref ca), .val (.int (0 : Int32)), .val (.int (1 : Int32)), .val (.ref b2), .val (.int (0 : Int32)), .unset] [(.ref ba_20)])) _
      refine XS.astore X20.here hx rfl (hb hby d20_26) rfl rfl (l' := #[.val (.ref ca), .val (.int (0 : Int32)), .val (.int (1 : Int32)), .val (.ref b2), .val (.int (0 : Int32)), .val (.ref ba_20)]) rfl ?_
      show Steps p.tables e below (T20.setTop (mkF m 28 #[.val (.ref ca), .val (.int (0 : Int32)), .val (.int (1 : Int32)), .val (.ref b2), .val (.int (0 : Int32)), .val (.ref ba_20)] [])) _
      refine XS.aload X20.here hx rfl (hb hby d20_28) rfl rfl ?_
      show Steps p.tables e below (T20.setTop (mkF m 30 #[.val (.ref ca), .val (.int (0 : Int32)), .val (.int (1 : Int32)), .val (.ref b2), .val (.int (0 : Int32)), .val (.ref ba_20)] [(.ref ba_20)])) _
      refine XS.iload X20.here hx rfl (hb hby d20_30) rfl ?_
      exact k)
  have f26 := f19.keep K20 all0
  obtain ⟨_, _, ⟨T27, L27, k27, n27⟩, -, X27, ⟨Lc27, hQ27, l27, y27, z27⟩, st27⟩ := Jvm.LawKit.callS X20 hx (y := (⟨"java/lang/StringUTF16", "getChar", "([BI)C"⟩ : MethodName)) hown (mvT hZ (hw _ (List.mem_of_getElem? (i := 231) rfl))) (mvT hZ (hw _ (List.mem_of_getElem? (i := 232) rfl))) (mvT hZ (hw _ (List.mem_of_getElem? (i := 135) rfl))) (mvT hZ (hw _ (List.mem_of_getElem? (i := 233) rfl))) (by decide) (backOf (W := 0) (rm40 l Z a0 hw [] ba_20 bcl_20 ch T20.heap n0 Z23 p20_1 p20_2 p20_3 p20_4 f26 Zs__assertionsDisabled Zs_HI_BYTE_SHIFT Zs_LO_BYTE_SHIFT) hZ (hw _ (List.mem_of_getElem? (i := 233) rfl)) (hw _ (List.mem_of_getElem? (i := 135) rfl)) (by decide) (by decide)) (g := (mkF m 32 #[.val (.ref ca), .val (.int (0 : Int32)), .val (.int (1 : Int32)), .val (.ref b2), .val (.int (0 : Int32)), .val (.ref ba_20)] [(.int (0 : Int32)), (.ref ba_20)])) rfl (by rw [hml]; rfl) (argsL := [(.ref ba_20), (.int (0 : Int32))]) (rest := []) (lenOf pd_25 rfl) rfl (by show 2 * 0 + _ ≤ _; exact Nat.le_of_eq rfl) (hb hby d20_32) (fun _ _ => ⟨rfl, rfl, (by decide : 2 + 0 ≤ _), (by decide : 3 + 0 ≤ _)⟩)
  dsimp only [Pt.U, Pt.locs, Pt.cells, Pt.slots] at X27 l27 y27 z27 st27 hQ27
  subst y27 z27
  obtain ⟨rfl, Nq27, e27⟩ := hQ27
  have N28 : Fr n0 L27 := by rw [l27]; exact Fr.app N21 Nq27
  have J29 : ∀ t, Steps p.tables e below (T27.setTop (mkF m 35 #[.val (.ref ca), .val (.int (0 : Int32)), .val (.int (1 : Int32)), .val (.ref b2), .val (.int (0 : Int32)), .val (.ref ba_20)] [(.int (own_gc ch))])) t → Steps p.tables e below (s₁.setTop (entryFrame m #[(.ref ca), (.int (0 : Int32)), (.int (1 : Int32))] 6)) t := fun t k => J25 t (st27 t k)
  have J30 : ∀ t, Steps p.tables e below (T27.setTop (mkF m 56 #[.val (.ref ca), .val (.int (0 : Int32)), .val (.int (1 : Int32)), .val (.ref b2), .val (.int (0 : Int32)), .val (.ref ba_20)] [(.ref ba_20)])) t → Steps p.tables e below (s₁.setTop (entryFrame m #[(.ref ca), (.int (0 : Int32)), (.int (1 : Int32))] 6)) t := fun t k => J29 t (by
      show Steps p.tables e below (T27.setTop (mkF m 35 #[.val (.ref ca), .val (.int (0 : Int32)), .val (.int (1 : Int32)), .val (.ref b2), .val (.int (0 : Int32)), .val (.ref ba_20)] [(.int (own_gc ch))])) _
      refine XS.sipush X27.here hx rfl (hb hby d20_35) ?_
      show Steps p.tables e below (T27.setTop (mkF m 38 #[.val (.ref ca), .val (.int (0 : Int32)), .val (.int (1 : Int32)), .val (.ref b2), .val (.int (0 : Int32)), .val (.ref ba_20)] [(.int (255 : Int32)), (.int (own_gc ch))])) _
      refine XS.icmpYes X27.here hx rfl (pc0 := 38) (pc' := 54) rfl (hb hby d20_38) rfl (tlt (by rw [own_gch hch]; exact hk)).2.2.1 (by decide) (by decide) ?_
      show Steps p.tables e below (T27.setTop (mkF m 54 #[.val (.ref ca), .val (.int (0 : Int32)), .val (.int (1 : Int32)), .val (.ref b2), .val (.int (0 : Int32)), .val (.ref ba_20)] [])) _
      refine XS.aload X27.here hx rfl (hb hby d20_54) rfl rfl ?_
      exact k)
  obtain ⟨fs, hr, hrun, hended, hW, hsame⟩ := X27.leave (v := some (.ref ba_20)) (fun h => by rw [Bd.returns] at h; cases h)
  refine ⟨_, _, J30 _ ?_, hrun, hended, _, _, rfl, ?_, ⟨_, rfl⟩, hW, hsame.mono (by decide) (by decide)⟩
  · show Steps p.tables e below (T27.setTop (mkF m 56 #[.val (.ref ca), .val (.int (0 : Int32)), .val (.int (1 : Int32)), .val (.ref b2), .val (.int (0 : Int32)), .val (.ref ba_20)] [(.ref ba_20)])) _
    jvm_step X27.here [X27.here.top, hx, (hb hby d20_56), X27.method', Bd.returns, Value.isRef, FieldType.isReference]
    first | (intro acts; rw [hr _ acts rfl rfl rfl]) | rw [hr _ _ rfl rfl rfl]
    exact Steps.refl _
  · show Q20U Z ca ccl ch h0 n0 _ T27.heap _
    rw [e27]
    exact ⟨ba_20, bcl_20, rfl, N28, KK24, p20_1, p20_2, p20_3, p20_4, p20_5, (Nat.le_trans KK15.1 p20_6)⟩
def Q22U (Z : State) (ba : Addr) (bcl : Cell) (h0 : Heap) (n0 : Nat) (v : Option Value) (h : Heap) (L : List Loc) : Prop := v = some (.int (1 : Int32)) ∧ Fr n0 L ∧ h = h0
set_option maxRecDepth 65536 in
set_option maxHeartbeats 40000000 in
theorem rm22U (l : Launch) (Z : State) (a0 : Array Value) (hw : ∀ d ∈ tables_1, d.before a0 Z = true) (ws : List Jvm.Cond) (ba : Addr) (bcl : Cell) (h0 : Heap) (n0 : Nat) (Z0 : n0 ≤ h0.size) (Ar_ba : Arr Z h0 ba bcl .byte) (hbz : bcl.slots.size = 2) :
    MetFree l (⟨"java/lang/StringUTF16", "coderFromArrayLen", "([BI)B"⟩ : MethodName) (head1 (Jvm.Cond.code (⟨"java/lang/StringUTF16", "coderFromArrayLen", "([BI)B"⟩ : MethodName) jdk_52_method_15_code 2 (some .byte) :: ws) ({ frames := 0, cells := 0, slots := 0, locals := 0 } : Room)) (fun a U => a = #[(.ref ba), (.int (1 : Int32))] ∧ Z.Warmed39 U.vm ∧ U.heap = h0) (fun _ _ _ _ _ => True) (fun _ U o U' => ∃ v L, o = .returned v ∧ Q22U Z ba bcl h0 n0 v U'.heap L ∧ FrameEnd U o U' L ({ frames := 0, cells := 0, slots := 0, locals := 0 } : Room).cells ({ frames := 0, cells := 0, slots := 0, locals := 0 } : Room).slots) := by
  refine MetFree.of_bodySF (plainFor_of_name pn_22) hisR ?_
  intro p e s m args below meth c s₁ Bd hml0 hP hK
  obtain ⟨rfl, hZ, hh⟩ := hP
  have hx := Bd.exec
  have hby := Bd.bytes
  have hml : c.maxLocals = 2 := hml0
  have hown : s.vm.findClass "java/lang/StringUTF16" = some m.cls := findClass_of_methodNamed Bd.named
  have hnm := (name_of_methodNamed Bd.named Bd.method).1
  have X0 : Stand p l e ({ frames := 0, cells := 0, slots := 0, locals := 0 } : Room) s m #[(.ref ba), (.int (1 : Int32))] below meth c s₁ [] 0 0 := Stand.of_body Bd
  have e0 : s₁.heap = h0 := by rw [← hh, Bd.state]; rfl
  have N0 := Fr.nil n0
  have pre0 : ∀ t, Steps p.tables e below (s₁.setTop (mkF m 0 #[.val (.ref ba), .val (.int (1 : Int32))] [])) t → Steps p.tables e below (s₁.setTop (entryFrame m #[(.ref ba), (.int (1 : Int32))] 2)) t := fun t k => castTop (ef_22_xx m ba (1 : Int32)) k
  have J1 : ∀ t, Steps p.tables e below (s₁.setTop (mkF m 8 #[.val (.ref ba), .val (.int (1 : Int32))] [(.int (((((1 : Int32) - (2 : Int32)).toUInt32 >>> ((31 : Int32) &&& 31).toUInt32).toInt32).toInt8.toInt32))])) t → Steps p.tables e below (s₁.setTop (entryFrame m #[(.ref ba), (.int (1 : Int32))] 2)) t := fun t k => pre0 t (by
      show Steps p.tables e below (s₁.setTop (mkF m 0 #[.val (.ref ba), .val (.int (1 : Int32))] [])) _
      refine XS.iloadN X0.here hx rfl (hb hby d22_0) rfl ?_
      show Steps p.tables e below (s₁.setTop (mkF m 1 #[.val (.ref ba), .val (.int (1 : Int32))] [(.int (1 : Int32))])) _
      refine XS.aloadN X0.here hx rfl (hb hby d22_1) rfl rfl ?_
      show Steps p.tables e below (s₁.setTop (mkF m 2 #[.val (.ref ba), .val (.int (1 : Int32))] [(.ref ba), (.int (1 : Int32))])) _
      refine X0.arraylength hx (cell := bcl) (by rw [e0]; exact Ar_ba.1) (State.isArrayOf_alike hZ.alike Ar_ba.2.1) (g := (mkF m 2 #[.val (.ref ba), .val (.int (1 : Int32))] [(.ref ba), (.int (1 : Int32))])) rfl (rest := [(.int (1 : Int32))]) rfl (hb hby d22_2) _ ?_
      rw [(show bcl.slots.size.toInt32 = (2 : Int32) from by rw [hbz]; rfl)]
      show Steps p.tables e below (s₁.setTop (mkF m 3 #[.val (.ref ba), .val (.int (1 : Int32))] [(.int (2 : Int32)), (.int (1 : Int32))])) _
      refine XS.isub X0.here hx rfl (hb hby d22_3) rfl ?_
      show Steps p.tables e below (s₁.setTop (mkF m 4 #[.val (.ref ba), .val (.int (1 : Int32))] [(.int ((1 : Int32) - (2 : Int32)))])) _
      refine XS.bipush X0.here hx rfl (hb hby d22_4) ?_
      show Steps p.tables e below (s₁.setTop (mkF m 6 #[.val (.ref ba), .val (.int (1 : Int32))] [(.int (31 : Int32)), (.int ((1 : Int32) - (2 : Int32)))])) _
      refine XS.iushr X0.here hx rfl (hb hby d22_6) rfl ?_
      show Steps p.tables e below (s₁.setTop (mkF m 7 #[.val (.ref ba), .val (.int (1 : Int32))] [(.int ((((1 : Int32) - (2 : Int32)).toUInt32 >>> ((31 : Int32) &&& 31).toUInt32).toInt32))])) _
      refine XS.i2b X0.here hx rfl (hb hby d22_7) rfl ?_
      exact k)
  have J2 : ∀ t, Steps p.tables e below (s₁.setTop (mkF m 8 #[.val (.ref ba), .val (.int (1 : Int32))] [(.int (1 : Int32))])) t → Steps p.tables e below (s₁.setTop (entryFrame m #[(.ref ba), (.int (1 : Int32))] 2)) t := fun t k => J1 t (by rw [(by decide : (((((1 : Int32) - (2 : Int32)).toUInt32 >>> ((31 : Int32) &&& 31).toUInt32).toInt32).toInt8.toInt32) = (1 : Int32))]; exact k)
  obtain ⟨fs, hr, hrun, hended, hW, hsame⟩ := X0.leave (v := some (.int (1 : Int32))) (fun h => by rw [Bd.returns] at h; cases h)
  refine ⟨_, _, J2 _ ?_, hrun, hended, _, _, rfl, ?_, ⟨_, rfl⟩, hW, hsame.mono (by decide) (by decide)⟩
  · show Steps p.tables e below (s₁.setTop (mkF m 8 #[.val (.ref ba), .val (.int (1 : Int32))] [(.int (1 : Int32))])) _
    exact retN X0 hx (t := .byte) Bd.returns (by simp) (hb hby d22_8) hr
  · show Q22U Z ba bcl h0 n0 _ s₁.heap _
    rw [e0]
    exact ⟨rfl, N0, rfl⟩
def Q19U (Z : State) (a1 : Addr) (ca : Addr) (ccl : Cell) (ch : Int32) (u1 : Value) (u2 : Value) (cs : Int32) (h0 : Heap) (n0 : Nat) (v : Option Value) (h : Heap) (L : List Loc) : Prop := ∃ (ba : Addr) (bcl : Cell), v = none ∧ Fr n0 L ∧ Keep h0 h [a1] ∧ (Exa Z h a1 "java/lang/String") ∧ (Fld Z h a1 "java/lang/String" "value" "[B" (.ref ba)) ∧ (Fld Z h a1 "java/lang/String" "coder" "B" (.int (1 : Int32))) ∧ (Arr Z h ba bcl .byte) ∧ (bcl.slots.size = 2) ∧ (bcl.slots[0]? = some (.int (own_u0 ch))) ∧ (bcl.slots[1]? = some (.int (own_u1 ch))) ∧ (h0.size ≤ ba)
set_option maxRecDepth 65536 in
set_option maxHeartbeats 40000000 in
theorem rm19U (l : Launch) (Z : State) (a0 : Array Value) (hw : ∀ d ∈ tables_1, d.before a0 Z = true) (ws : List Jvm.Cond) (a1 : Addr) (ca : Addr) (ccl : Cell) (ch : Int32) (u1 : Value) (u2 : Value) (cs : Int32) (h0 : Heap) (n0 : Nat) (Z0 : n0 ≤ h0.size) (E_a1 : Exa Z h0 a1 "java/lang/String") (g_a1 : n0 ≤ a1) (F_value_a1 : Fld Z h0 a1 "java/lang/String" "value" "[B" u1) (F_coder_a1 : Fld Z h0 a1 "java/lang/String" "coder" "B" u2) (Ar_ca : Arr Z h0 ca ccl .char) (hcz : ccl.slots.size = 256) (hc0 : ccl.slots[0]? = some (.int ch)) (hk : (255 : Int32) < ch) (O : Old Z n0 h0) (Zs_COMPACT_STRINGS : Sta Z Z.heap "java/lang/String" "COMPACT_STRINGS" "Z" (.int cs)) (hcs : ¬ cs = (0 : Int32)) (Zs__assertionsDisabled : Sta Z Z.heap "java/lang/StringUTF16" "$assertionsDisabled" "Z" (.int (1 : Int32))) (Zs_HI_BYTE_SHIFT : Sta Z Z.heap "java/lang/StringUTF16" "HI_BYTE_SHIFT" "I" (.int (0 : Int32))) (Zs_LO_BYTE_SHIFT : Sta Z Z.heap "java/lang/StringUTF16" "LO_BYTE_SHIFT" "I" (.int (8 : Int32))) (hch : own_ch ch) (ne_a1_ca : a1 ≠ ca) :
    MetFree l (⟨"java/lang/String", "<init>", "([CIILjava/lang/Void;)V"⟩ : MethodName) (head1 (Jvm.Cond.code (⟨"java/lang/String", "<init>", "([CIILjava/lang/Void;)V"⟩ : MethodName) jdk_42_method_149_code 6 none :: ws) ({ frames := 4, cells := 2, slots := 3, locals := 57 } : Room)) (fun a U => a = #[(.ref a1), (.ref ca), (.int (0 : Int32)), (.int (1 : Int32)), .null] ∧ Z.Warmed39 U.vm ∧ U.heap = h0) (fun _ _ _ _ _ => True) (fun _ U o U' => ∃ v L, o = .returned v ∧ Q19U Z a1 ca ccl ch u1 u2 cs h0 n0 v U'.heap L ∧ FrameEnd U o U' L ({ frames := 4, cells := 2, slots := 3, locals := 57 } : Room).cells ({ frames := 4, cells := 2, slots := 3, locals := 57 } : Room).slots) := by
  refine MetFree.of_bodySF (plainFor_of_name pn_19) hisR ?_
  intro p e s m args below meth c s₁ Bd hml0 hP hK
  obtain ⟨rfl, hZ, hh⟩ := hP
  have hx := Bd.exec
  have hby := Bd.bytes
  have hml : c.maxLocals = 6 := hml0
  have hown : s.vm.findClass "java/lang/String" = some m.cls := findClass_of_methodNamed Bd.named
  have hnm := (name_of_methodNamed Bd.named Bd.method).1
  have X0 : Stand p l e ({ frames := 4, cells := 2, slots := 3, locals := 57 } : Room) s m #[(.ref a1), (.ref ca), (.int (0 : Int32)), (.int (1 : Int32)), .null] below meth c s₁ [] 0 0 := Stand.of_body Bd
  have e0 : s₁.heap = h0 := by rw [← hh, Bd.state]; rfl
  have N0 := Fr.nil n0
  have pre0 : ∀ t, Steps p.tables e below (s₁.setTop (mkF m 0 #[.val (.ref a1), .val (.ref ca), .val (.int (0 : Int32)), .val (.int (1 : Int32)), .val .null, .unset] [])) t → Steps p.tables e below (s₁.setTop (entryFrame m #[(.ref a1), (.ref ca), (.int (0 : Int32)), (.int (1 : Int32)), .null] 6)) t := fun t k => castTop (ef_19_xxxxn m a1 ca (0 : Int32) (1 : Int32)) k
  have J1 : ∀ t, Steps p.tables e below (s₁.setTop (mkF m 1 #[.val (.ref a1), .val (.ref ca), .val (.int (0 : Int32)), .val (.int (1 : Int32)), .val .null, .unset] [(.ref a1)])) t → Steps p.tables e below (s₁.setTop (entryFrame m #[(.ref a1), (.ref ca), (.int (0 : Int32)), (.int (1 : Int32)), .null] 6)) t := fun t k => pre0 t (by
      show Steps p.tables e below (s₁.setTop (mkF m 0 #[.val (.ref a1), .val (.ref ca), .val (.int (0 : Int32)), .val (.int (1 : Int32)), .val .null, .unset] [])) _
      refine XS.aloadN X0.here hx rfl (hb hby d19_0) rfl rfl ?_
      exact k)
  obtain ⟨T2, X2, e2, st2⟩ := initO X0 hx hZ hown (hw _ (List.mem_of_getElem? (i := 131) rfl)) (hw _ (List.mem_of_getElem? (i := 26) rfl)) (hw _ (List.mem_of_getElem? (i := 27) rfl)) e0 (g := (mkF m 1 #[.val (.ref a1), .val (.ref ca), .val (.int (0 : Int32)), .val (.int (1 : Int32)), .val .null, .unset] [(.ref a1)])) rfl (by rw [hml]; rfl) rfl (hb hby d19_1) (by decide) (W := 0) (by show 2 * 0 + _ ≤ _; exact Nat.le_of_eq rfl) (by decide)
  have J3 : ∀ t, Steps p.tables e below (T2.setTop (mkF m 4 #[.val (.ref a1), .val (.ref ca), .val (.int (0 : Int32)), .val (.int (1 : Int32)), .val .null, .unset] [])) t → Steps p.tables e below (s₁.setTop (entryFrame m #[(.ref a1), (.ref ca), (.int (0 : Int32)), (.int (1 : Int32)), .null] 6)) t := fun t k => J1 t (st2 t k)
  have J4 : ∀ t, Steps p.tables e below (T2.setTop (mkF m 27 #[.val (.ref a1), .val (.ref ca), .val (.int (0 : Int32)), .val (.int (1 : Int32)), .val .null, .unset] [])) t → Steps p.tables e below (s₁.setTop (entryFrame m #[(.ref a1), (.ref ca), (.int (0 : Int32)), (.int (1 : Int32)), .null] 6)) t := fun t k => J3 t (by
      show Steps p.tables e below (T2.setTop (mkF m 4 #[.val (.ref a1), .val (.ref ca), .val (.int (0 : Int32)), .val (.int (1 : Int32)), .val .null, .unset] [])) _
      refine XS.iloadN X2.here hx rfl (hb hby d19_4) rfl ?_
      show Steps p.tables e below (T2.setTop (mkF m 5 #[.val (.ref a1), .val (.ref ca), .val (.int (0 : Int32)), .val (.int (1 : Int32)), .val .null, .unset] [(.int (1 : Int32))])) _
      refine XS.ifYes X2.here hx rfl (pc0 := 5) (pc' := 27) rfl (hb hby d19_5) rfl ((if0 _ _).trans (feq (by decide)).2) (by decide) (by decide) ?_
      exact k)
  obtain ⟨T5, X5, e5, st5⟩ := getS2 X2 hx hZ hown (host := "") (Or.inl (hw _ (List.mem_of_getElem? (i := 132) rfl))) Via.refl e2 (Zs_COMPACT_STRINGS.ext O.2) (g := (mkF m 27 #[.val (.ref a1), .val (.ref ca), .val (.int (0 : Int32)), .val (.int (1 : Int32)), .val .null, .unset] [])) rfl (hb hby d19_27)
  have J6 : ∀ t, Steps p.tables e below (T5.setTop (mkF m 30 #[.val (.ref a1), .val (.ref ca), .val (.int (0 : Int32)), .val (.int (1 : Int32)), .val .null, .unset] [(.int cs)])) t → Steps p.tables e below (s₁.setTop (entryFrame m #[(.ref a1), (.ref ca), (.int (0 : Int32)), (.int (1 : Int32)), .null] 6)) t := fun t k => J4 t (st5 t k)
  have J7 : ∀ t, Steps p.tables e below (T5.setTop (mkF m 36 #[.val (.ref a1), .val (.ref ca), .val (.int (0 : Int32)), .val (.int (1 : Int32)), .val .null, .unset] [(.int (1 : Int32)), (.int (0 : Int32)), (.ref ca)])) t → Steps p.tables e below (s₁.setTop (entryFrame m #[(.ref a1), (.ref ca), (.int (0 : Int32)), (.int (1 : Int32)), .null] 6)) t := fun t k => J6 t (by
      show Steps p.tables e below (T5.setTop (mkF m 30 #[.val (.ref a1), .val (.ref ca), .val (.int (0 : Int32)), .val (.int (1 : Int32)), .val .null, .unset] [(.int cs)])) _
      refine XS.ifNo X5.here hx rfl (hb hby d19_30) rfl ((if0 _ _).trans (feq hcs).1) ?_
      show Steps p.tables e below (T5.setTop (mkF m 33 #[.val (.ref a1), .val (.ref ca), .val (.int (0 : Int32)), .val (.int (1 : Int32)), .val .null, .unset] [])) _
      refine XS.aloadN X5.here hx rfl (hb hby d19_33) rfl rfl ?_
      show Steps p.tables e below (T5.setTop (mkF m 34 #[.val (.ref a1), .val (.ref ca), .val (.int (0 : Int32)), .val (.int (1 : Int32)), .val .null, .unset] [(.ref ca)])) _
      refine XS.iloadN X5.here hx rfl (hb hby d19_34) rfl ?_
      show Steps p.tables e below (T5.setTop (mkF m 35 #[.val (.ref a1), .val (.ref ca), .val (.int (0 : Int32)), .val (.int (1 : Int32)), .val .null, .unset] [(.int (0 : Int32)), (.ref ca)])) _
      refine XS.iloadN X5.here hx rfl (hb hby d19_35) rfl ?_
      exact k)
  obtain ⟨_, _, ⟨T8, L8, k8, n8⟩, -, X8, ⟨Lc8, hQ8, l8, y8, z8⟩, st8⟩ := Jvm.LawKit.callS X5 hx (y := (⟨"java/lang/StringUTF16", "compress", "([CII)[B"⟩ : MethodName)) hown (mvT hZ (hw _ (List.mem_of_getElem? (i := 133) rfl))) (mvT hZ (hw _ (List.mem_of_getElem? (i := 134) rfl))) (mvT hZ (hw _ (List.mem_of_getElem? (i := 135) rfl))) (mvT hZ (hw _ (List.mem_of_getElem? (i := 136) rfl))) (by decide) (backOf (W := 0) (rm20U l Z a0 hw [] ca ccl ch h0 n0 Z0 Ar_ca (by assumption) (by assumption) (by assumption) O Zs__assertionsDisabled Zs_HI_BYTE_SHIFT Zs_LO_BYTE_SHIFT (by assumption)) hZ (hw _ (List.mem_of_getElem? (i := 136) rfl)) (hw _ (List.mem_of_getElem? (i := 135) rfl)) (by decide) (by decide)) (g := (mkF m 36 #[.val (.ref a1), .val (.ref ca), .val (.int (0 : Int32)), .val (.int (1 : Int32)), .val .null, .unset] [(.int (1 : Int32)), (.int (0 : Int32)), (.ref ca)])) rfl (by rw [hml]; rfl) (argsL := [(.ref ca), (.int (0 : Int32)), (.int (1 : Int32))]) (rest := []) (lenOf pd_14 rfl) rfl (by show 2 * 0 + _ ≤ _; exact Nat.le_of_eq rfl) (hb hby d19_36) (fun _ _ => ⟨rfl, e5, (by decide : 0 + 2 ≤ _), (by decide : 0 + 3 ≤ _)⟩)
  dsimp only [Pt.U, Pt.locs, Pt.cells, Pt.slots] at X8 l8 y8 z8 st8 hQ8
  subst y8 z8
  obtain ⟨ba_8, bcl_8, rfl, Nq8, K8, p8_1, p8_2, p8_3, p8_4, p8_5, p8_6⟩ := hQ8
  have N9 : Fr n0 L8 := by rw [l8]; exact Fr.app N0 Nq8
  have J10 : ∀ t, Steps p.tables e below (T8.setTop (mkF m 39 #[.val (.ref a1), .val (.ref ca), .val (.int (0 : Int32)), .val (.int (1 : Int32)), .val .null, .unset] [(.ref ba_8)])) t → Steps p.tables e below (s₁.setTop (entryFrame m #[(.ref a1), (.ref ca), (.int (0 : Int32)), (.int (1 : Int32)), .null] 6)) t := fun t k => J7 t (st8 t k)
  have Z11 : n0 ≤ T8.heap.size := Nat.le_trans Z0 K8.1
  have KK12 : Keep h0 T8.heap [a1] := (Keep.refl h0 [a1]).trans K8 all0
  have J13 : ∀ t, Steps p.tables e below (T8.setTop (mkF m 45 #[.val (.ref a1), .val (.ref ca), .val (.int (0 : Int32)), .val (.int (1 : Int32)), .val .null, .val (.ref ba_8)] [(.int (1 : Int32)), (.ref ba_8), (.ref a1)])) t → Steps p.tables e below (s₁.setTop (entryFrame m #[(.ref a1), (.ref ca), (.int (0 : Int32)), (.int (1 : Int32)), .null] 6)) t := fun t k => J10 t (by
      show Steps p.tables e below (T8.setTop (mkF m 39 #[.val (.ref a1), .val (.ref ca), .val (.int (0 : Int32)), .val (.int (1 : Int32)), .val .null, .unset] [(.ref ba_8)])) _
      refine XS.astore X8.here hx rfl (hb hby d19_39) rfl rfl (l' := #[.val (.ref a1), .val (.ref ca), .val (.int (0 : Int32)), .val (.int (1 : Int32)), .val .null, .val (.ref ba_8)]) rfl ?_
      show Steps p.tables e below (T8.setTop (mkF m 41 #[.val (.ref a1), .val (.ref ca), .val (.int (0 : Int32)), .val (.int (1 : Int32)), .val .null, .val (.ref ba_8)] [])) _
      refine XS.aloadN X8.here hx rfl (hb hby d19_41) rfl rfl ?_
      show Steps p.tables e below (T8.setTop (mkF m 42 #[.val (.ref a1), .val (.ref ca), .val (.int (0 : Int32)), .val (.int (1 : Int32)), .val .null, .val (.ref ba_8)] [(.ref a1)])) _
      refine XS.aload X8.here hx rfl (hb hby d19_42) rfl rfl ?_
      show Steps p.tables e below (T8.setTop (mkF m 44 #[.val (.ref a1), .val (.ref ca), .val (.int (0 : Int32)), .val (.int (1 : Int32)), .val .null, .val (.ref ba_8)] [(.ref ba_8), (.ref a1)])) _
      refine XS.iloadN X8.here hx rfl (hb hby d19_44) rfl ?_
      exact k)
  obtain ⟨_, _, ⟨T14, L14, k14, n14⟩, -, X14, ⟨Lc14, hQ14, l14, y14, z14⟩, st14⟩ := Jvm.LawKit.callS X8 hx (y := (⟨"java/lang/StringUTF16", "coderFromArrayLen", "([BI)B"⟩ : MethodName)) hown (mvT hZ (hw _ (List.mem_of_getElem? (i := 140) rfl))) (mvT hZ (hw _ (List.mem_of_getElem? (i := 141) rfl))) (mvT hZ (hw _ (List.mem_of_getElem? (i := 135) rfl))) (mvT hZ (hw _ (List.mem_of_getElem? (i := 142) rfl))) (by decide) (backOf (W := 1) (rm22U l Z a0 hw [] ba_8 bcl_8 T8.heap n0 Z11 p8_1 p8_2) hZ (hw _ (List.mem_of_getElem? (i := 142) rfl)) (hw _ (List.mem_of_getElem? (i := 135) rfl)) (by decide) (by decide)) (g := (mkF m 45 #[.val (.ref a1), .val (.ref ca), .val (.int (0 : Int32)), .val (.int (1 : Int32)), .val .null, .val (.ref ba_8)] [(.int (1 : Int32)), (.ref ba_8), (.ref a1)])) rfl (by rw [hml]; rfl) (argsL := [(.ref ba_8), (.int (1 : Int32))]) (rest := [(.ref a1)]) (lenOf pd_15 rfl) rfl (by show 2 * 0 + _ ≤ _; exact Nat.le_of_eq rfl) (hb hby d19_45) (fun _ _ => ⟨rfl, rfl, (by decide : 2 + 0 ≤ _), (by decide : 3 + 0 ≤ _)⟩)
  dsimp only [Pt.U, Pt.locs, Pt.cells, Pt.slots] at X14 l14 y14 z14 st14 hQ14
  subst y14 z14
  obtain ⟨rfl, Nq14, e14⟩ := hQ14
  have N15 : Fr n0 L14 := by rw [l14]; exact Fr.app N9 Nq14
  have J16 : ∀ t, Steps p.tables e below (T14.setTop (mkF m 48 #[.val (.ref a1), .val (.ref ca), .val (.int (0 : Int32)), .val (.int (1 : Int32)), .val .null, .val (.ref ba_8)] [(.int (1 : Int32)), (.ref a1)])) t → Steps p.tables e below (s₁.setTop (entryFrame m #[(.ref a1), (.ref ca), (.int (0 : Int32)), (.int (1 : Int32)), .null] 6)) t := fun t k => J13 t (st14 t k)
  have f17 := F_coder_a1.keep K8 nin0
  have f18 := E_a1.keep K8
  obtain ⟨T19, h19, X19, e19, W19, st19⟩ := putFN X14 hx hZ hown (hw _ (List.mem_of_getElem? (i := 143) rfl)) Via.refl e14 f17 f18 (Or.inr ⟨(hw _ (List.mem_of_getElem? (i := 8) rfl)), rfl, hnm⟩) (hw _ (List.mem_of_getElem? (i := 5) rfl)) (ty := .byte) (v' := (.int (1 : Int32))) (by decide) rfl (by decide) (g := (mkF m 48 #[.val (.ref a1), .val (.ref ca), .val (.int (0 : Int32)), .val (.int (1 : Int32)), .val .null, .val (.ref ba_8)] [(.int (1 : Int32)), (.ref a1)])) rfl rfl (hb hby d19_48)
  have J20 : ∀ t, Steps p.tables e below (T19.setTop (mkF m 51 #[.val (.ref a1), .val (.ref ca), .val (.int (0 : Int32)), .val (.int (1 : Int32)), .val .null, .val (.ref ba_8)] [])) t → Steps p.tables e below (s₁.setTop (entryFrame m #[(.ref a1), (.ref ca), (.int (0 : Int32)), (.int (1 : Int32)), .null] 6)) t := fun t k => J16 t (st19 t k)
  have Z21 : n0 ≤ h19.size := Nat.le_trans Z11 (Keep.of_wr W19).1
  have KK22 : Keep h0 h19 [a1] := KK12.wr W19 (Or.inl (List.mem_of_getElem? (i := 0) rfl))
  have N23 := Fr.snoc X19 N15 g_a1
  have Fw19 := f17.same W19
  have J24 : ∀ t, Steps p.tables e below (T19.setTop (mkF m 54 #[.val (.ref a1), .val (.ref ca), .val (.int (0 : Int32)), .val (.int (1 : Int32)), .val .null, .val (.ref ba_8)] [(.ref ba_8), (.ref a1)])) t → Steps p.tables e below (s₁.setTop (entryFrame m #[(.ref a1), (.ref ca), (.int (0 : Int32)), (.int (1 : Int32)), .null] 6)) t := fun t k => J20 t (by
      show Steps p.tables e below (T19.setTop (mkF m 51 #[.val (.ref a1), .val (.ref ca), .val (.int (0 : Int32)), .val (.int (1 : Int32)), .val .null, .val (.ref ba_8)] [])) _
      refine XS.aloadN X19.here hx rfl (hb hby d19_51) rfl rfl ?_
      show Steps p.tables e below (T19.setTop (mkF m 52 #[.val (.ref a1), .val (.ref ca), .val (.int (0 : Int32)), .val (.int (1 : Int32)), .val .null, .val (.ref ba_8)] [(.ref a1)])) _
      refine XS.aload X19.here hx rfl (hb hby d19_52) rfl rfl ?_
      exact k)
  have f25 := F_value_a1.keep K8 nin0
  have f26 := f25.other W19 (Or.inr (slot_ne (Or.inr (hw _ (List.mem_of_getElem? (i := 7) rfl))) (Or.inr (hw _ (List.mem_of_getElem? (i := 8) rfl))) (by decide) (t := (.array .byte)) (t' := .byte) (by decide) (by decide)))
  have f27 := f18.wr W19
  obtain ⟨T28, h28, X28, e28, W28, st28⟩ := putF X19 hx hZ hown (host := "") (Or.inl (hw _ (List.mem_of_getElem? (i := 144) rfl))) Via.refl e19 f26 f27 (Or.inr ⟨(hw _ (List.mem_of_getElem? (i := 7) rfl)), rfl, hnm⟩) (hw _ (List.mem_of_getElem? (i := 5) rfl)) (ty := (.array .byte)) (by decide) rfl rfl (g := (mkF m 54 #[.val (.ref a1), .val (.ref ca), .val (.int (0 : Int32)), .val (.int (1 : Int32)), .val .null, .val (.ref ba_8)] [(.ref ba_8), (.ref a1)])) rfl rfl (hb hby d19_54)
  have J29 : ∀ t, Steps p.tables e below (T28.setTop (mkF m 57 #[.val (.ref a1), .val (.ref ca), .val (.int (0 : Int32)), .val (.int (1 : Int32)), .val .null, .val (.ref ba_8)] [])) t → Steps p.tables e below (s₁.setTop (entryFrame m #[(.ref a1), (.ref ca), (.int (0 : Int32)), (.int (1 : Int32)), .null] 6)) t := fun t k => J24 t (st28 t k)
  have Z30 : n0 ≤ h28.size := Nat.le_trans Z21 (Keep.of_wr W28).1
  have KK31 : Keep h0 h28 [a1] := KK22.wr W28 (Or.inl (List.mem_of_getElem? (i := 0) rfl))
  have N32 := Fr.snoc X28 N23 g_a1
  have Fw28 := f26.same W28
  obtain ⟨fs, hr, hrun, hended, hW, hsame⟩ := X28.leave (v := none) (fun _ => rfl)
  have f33 := f27.wr W28
  have f34 := Fw19.other W28 (Or.inr (slot_ne (Or.inr (hw _ (List.mem_of_getElem? (i := 8) rfl))) (Or.inr (hw _ (List.mem_of_getElem? (i := 7) rfl))) (by decide) (t := .byte) (t' := (.array .byte)) (by decide) (by decide)))
  have f35 := p8_1.other W19 (Ne.symm (Nat.ne_of_lt (Nat.lt_of_lt_of_le E_a1.lt p8_6)))
  have f36 := f35.other W28 (Ne.symm (Nat.ne_of_lt (Nat.lt_of_lt_of_le E_a1.lt p8_6)))
  refine ⟨_, _, J29 _ ?_, hrun, hended, _, _, rfl, ?_, ⟨_, rfl⟩, hW, hsame.mono (by decide) (by decide)⟩
  · show Steps p.tables e below (T28.setTop (mkF m 57 #[.val (.ref a1), .val (.ref ca), .val (.int (0 : Int32)), .val (.int (1 : Int32)), .val .null, .val (.ref ba_8)] [])) _
    exact X28.returnOut hx Bd.returns (hb hby d19_57) hr
  · show Q19U Z a1 ca ccl ch u1 u2 cs h0 n0 _ T28.heap _
    rw [e28]
    exact ⟨ba_8, bcl_8, rfl, N32, KK31, f33, Fw28, f34, f36, p8_2, p8_3, p8_4, (Nat.le_trans (Keep.refl h0 [a1]).1 p8_6)⟩
def Q15U (Z : State) (a1 : Addr) (ca : Addr) (ccl : Cell) (ch : Int32) (u1 : Value) (u2 : Value) (cs : Int32) (fm : Value) (h0 : Heap) (n0 : Nat) (v : Option Value) (h : Heap) (L : List Loc) : Prop := ∃ (ba : Addr) (bcl : Cell), v = none ∧ Fr n0 L ∧ Keep h0 h [a1] ∧ (Exa Z h a1 "java/lang/String") ∧ (Fld Z h a1 "java/lang/String" "value" "[B" (.ref ba)) ∧ (Fld Z h a1 "java/lang/String" "coder" "B" (.int (1 : Int32))) ∧ (Arr Z h ba bcl .byte) ∧ (bcl.slots.size = 2) ∧ (bcl.slots[0]? = some (.int (own_u0 ch))) ∧ (bcl.slots[1]? = some (.int (own_u1 ch))) ∧ (h0.size ≤ ba)
set_option maxRecDepth 65536 in
set_option maxHeartbeats 40000000 in
theorem rm15U (l : Launch) (Z : State) (a0 : Array Value) (hw : ∀ d ∈ tables_1, d.before a0 Z = true) (ws : List Jvm.Cond) (a1 : Addr) (ca : Addr) (ccl : Cell) (ch : Int32) (u1 : Value) (u2 : Value) (cs : Int32) (fm : Value) (h0 : Heap) (n0 : Nat) (Z0 : n0 ≤ h0.size) (E_a1 : Exa Z h0 a1 "java/lang/String") (g_a1 : n0 ≤ a1) (F_value_a1 : Fld Z h0 a1 "java/lang/String" "value" "[B" u1) (F_coder_a1 : Fld Z h0 a1 "java/lang/String" "coder" "B" u2) (Ar_ca : Arr Z h0 ca ccl .char) (hcz : ccl.slots.size = 256) (hc0 : ccl.slots[0]? = some (.int ch)) (hk : (255 : Int32) < ch) (O : Old Z n0 h0) (Zs_COMPACT_STRINGS : Sta Z Z.heap "java/lang/String" "COMPACT_STRINGS" "Z" (.int cs)) (hcs : ¬ cs = (0 : Int32)) (Zs__assertionsDisabled : Sta Z Z.heap "java/lang/StringUTF16" "$assertionsDisabled" "Z" (.int (1 : Int32))) (Zs_HI_BYTE_SHIFT : Sta Z Z.heap "java/lang/StringUTF16" "HI_BYTE_SHIFT" "I" (.int (0 : Int32))) (Zs_LO_BYTE_SHIFT : Sta Z Z.heap "java/lang/StringUTF16" "LO_BYTE_SHIFT" "I" (.int (8 : Int32))) (hch : own_ch ch) (ne_a1_ca : a1 ≠ ca) (Zs_SIOOBE_FORMATTER : Sta Z Z.heap "jdk/internal/util/Preconditions" "SIOOBE_FORMATTER" "Ljava/util/function/BiFunction;" fm) (hfm : fm.isRef = true) :
    MetFree l (⟨"java/lang/String", "<init>", "([CII)V"⟩ : MethodName) (head1 (Jvm.Cond.code (⟨"java/lang/String", "<init>", "([CII)V"⟩ : MethodName) jdk_42_method_4_code 4 none :: ws) ({ frames := 5, cells := 2, slots := 3, locals := 74 } : Room)) (fun a U => a = #[(.ref a1), (.ref ca), (.int (0 : Int32)), (.int (1 : Int32))] ∧ Z.Warmed39 U.vm ∧ U.heap = h0) (fun _ _ _ _ _ => True) (fun _ U o U' => ∃ v L, o = .returned v ∧ Q15U Z a1 ca ccl ch u1 u2 cs fm h0 n0 v U'.heap L ∧ FrameEnd U o U' L ({ frames := 5, cells := 2, slots := 3, locals := 74 } : Room).cells ({ frames := 5, cells := 2, slots := 3, locals := 74 } : Room).slots) := by
  refine MetFree.of_bodySF (plainFor_of_name pn_15) hisR ?_
  intro p e s m args below meth c s₁ Bd hml0 hP hK
  obtain ⟨rfl, hZ, hh⟩ := hP
  have hx := Bd.exec
  have hby := Bd.bytes
  have hml : c.maxLocals = 4 := hml0
  have hown : s.vm.findClass "java/lang/String" = some m.cls := findClass_of_methodNamed Bd.named
  have hnm := (name_of_methodNamed Bd.named Bd.method).1
  have X0 : Stand p l e ({ frames := 5, cells := 2, slots := 3, locals := 74 } : Room) s m #[(.ref a1), (.ref ca), (.int (0 : Int32)), (.int (1 : Int32))] below meth c s₁ [] 0 0 := Stand.of_body Bd
  have e0 : s₁.heap = h0 := by rw [← hh, Bd.state]; rfl
  have N0 := Fr.nil n0
  have pre0 : ∀ t, Steps p.tables e below (s₁.setTop (mkF m 0 #[.val (.ref a1), .val (.ref ca), .val (.int (0 : Int32)), .val (.int (1 : Int32))] [])) t → Steps p.tables e below (s₁.setTop (entryFrame m #[(.ref a1), (.ref ca), (.int (0 : Int32)), (.int (1 : Int32))] 4)) t := fun t k => castTop (ef_15_xxxx m a1 ca (0 : Int32) (1 : Int32)) k
  have J1 : ∀ t, Steps p.tables e below (s₁.setTop (mkF m 7 #[.val (.ref a1), .val (.ref ca), .val (.int (0 : Int32)), .val (.int (1 : Int32))] [(.int (1 : Int32)), (.int (0 : Int32)), (.ref ca), (.int (1 : Int32)), (.int (0 : Int32)), (.ref ca), (.ref a1)])) t → Steps p.tables e below (s₁.setTop (entryFrame m #[(.ref a1), (.ref ca), (.int (0 : Int32)), (.int (1 : Int32))] 4)) t := fun t k => pre0 t (by
      show Steps p.tables e below (s₁.setTop (mkF m 0 #[.val (.ref a1), .val (.ref ca), .val (.int (0 : Int32)), .val (.int (1 : Int32))] [])) _
      refine XS.aloadN X0.here hx rfl (hb hby d15_0) rfl rfl ?_
      show Steps p.tables e below (s₁.setTop (mkF m 1 #[.val (.ref a1), .val (.ref ca), .val (.int (0 : Int32)), .val (.int (1 : Int32))] [(.ref a1)])) _
      refine XS.aloadN X0.here hx rfl (hb hby d15_1) rfl rfl ?_
      show Steps p.tables e below (s₁.setTop (mkF m 2 #[.val (.ref a1), .val (.ref ca), .val (.int (0 : Int32)), .val (.int (1 : Int32))] [(.ref ca), (.ref a1)])) _
      refine XS.iloadN X0.here hx rfl (hb hby d15_2) rfl ?_
      show Steps p.tables e below (s₁.setTop (mkF m 3 #[.val (.ref a1), .val (.ref ca), .val (.int (0 : Int32)), .val (.int (1 : Int32))] [(.int (0 : Int32)), (.ref ca), (.ref a1)])) _
      refine XS.iloadN X0.here hx rfl (hb hby d15_3) rfl ?_
      show Steps p.tables e below (s₁.setTop (mkF m 4 #[.val (.ref a1), .val (.ref ca), .val (.int (0 : Int32)), .val (.int (1 : Int32))] [(.int (1 : Int32)), (.int (0 : Int32)), (.ref ca), (.ref a1)])) _
      refine XS.aloadN X0.here hx rfl (hb hby d15_4) rfl rfl ?_
      show Steps p.tables e below (s₁.setTop (mkF m 5 #[.val (.ref a1), .val (.ref ca), .val (.int (0 : Int32)), .val (.int (1 : Int32))] [(.ref ca), (.int (1 : Int32)), (.int (0 : Int32)), (.ref ca), (.ref a1)])) _
      refine XS.iloadN X0.here hx rfl (hb hby d15_5) rfl ?_
      show Steps p.tables e below (s₁.setTop (mkF m 6 #[.val (.ref a1), .val (.ref ca), .val (.int (0 : Int32)), .val (.int (1 : Int32))] [(.int (0 : Int32)), (.ref ca), (.int (1 : Int32)), (.int (0 : Int32)), (.ref ca), (.ref a1)])) _
      refine XS.iloadN X0.here hx rfl (hb hby d15_6) rfl ?_
      exact k)
  obtain ⟨_, _, ⟨T2, L2, k2, n2⟩, -, X2, ⟨Lc2, hQ2, l2, y2, z2⟩, st2⟩ := Jvm.LawKit.callS X0 hx (y := (⟨"java/lang/String", "rangeCheck", "([CII)Ljava/lang/Void;"⟩ : MethodName)) hown (mvT hZ (hw _ (List.mem_of_getElem? (i := 116) rfl))) (mvT hZ (hw _ (List.mem_of_getElem? (i := 117) rfl))) (mvT hZ (hw _ (List.mem_of_getElem? (i := 4) rfl))) (mvT hZ (hw _ (List.mem_of_getElem? (i := 118) rfl))) (by decide) (backOf (W := 4) (rm16 l Z a0 hw [] ca ccl fm h0 n0 Z0 Ar_ca (by assumption) O Zs_SIOOBE_FORMATTER (by assumption)) hZ (hw _ (List.mem_of_getElem? (i := 118) rfl)) (hw _ (List.mem_of_getElem? (i := 4) rfl)) (by decide) (by decide)) (g := (mkF m 7 #[.val (.ref a1), .val (.ref ca), .val (.int (0 : Int32)), .val (.int (1 : Int32))] [(.int (1 : Int32)), (.int (0 : Int32)), (.ref ca), (.int (1 : Int32)), (.int (0 : Int32)), (.ref ca), (.ref a1)])) rfl (by rw [hml]; rfl) (argsL := [(.ref ca), (.int (0 : Int32)), (.int (1 : Int32))]) (rest := [(.int (1 : Int32)), (.int (0 : Int32)), (.ref ca), (.ref a1)]) (lenOf pd_16 rfl) rfl (by show 2 * 0 + _ ≤ _; exact Nat.le_of_eq rfl) (hb hby d15_7) (fun _ _ => ⟨rfl, e0, (by decide : 0 + 0 ≤ _), (by decide : 0 + 0 ≤ _)⟩)
  dsimp only [Pt.U, Pt.locs, Pt.cells, Pt.slots] at X2 l2 y2 z2 st2 hQ2
  subst y2 z2
  obtain ⟨rfl, Nq2, e2⟩ := hQ2
  have N3 : Fr n0 L2 := by rw [l2]; exact Fr.app N0 Nq2
  have J4 : ∀ t, Steps p.tables e below (T2.setTop (mkF m 10 #[.val (.ref a1), .val (.ref ca), .val (.int (0 : Int32)), .val (.int (1 : Int32))] [.null, (.int (1 : Int32)), (.int (0 : Int32)), (.ref ca), (.ref a1)])) t → Steps p.tables e below (s₁.setTop (entryFrame m #[(.ref a1), (.ref ca), (.int (0 : Int32)), (.int (1 : Int32))] 4)) t := fun t k => J1 t (st2 t k)
  obtain ⟨_, _, ⟨T5, L5, k5, n5⟩, -, X5, ⟨Lc5, hQ5, l5, y5, z5⟩, st5⟩ := X2.specialBack hx (y := (⟨"java/lang/String", "<init>", "([CIILjava/lang/Void;)V"⟩ : MethodName)) rfl hown (mvT hZ (hw _ (List.mem_of_getElem? (i := 127) rfl))) (mvT hZ (hw _ (List.mem_of_getElem? (i := 128) rfl))) (mvT hZ (hw _ (List.mem_of_getElem? (i := 130) rfl))) (by decide) (backOf (W := 0) (rm19U l Z a0 hw [] a1 ca ccl ch u1 u2 cs h0 n0 Z0 E_a1 g_a1 F_value_a1 F_coder_a1 Ar_ca (by assumption) (by assumption) (by assumption) O Zs_COMPACT_STRINGS (by assumption) Zs__assertionsDisabled Zs_HI_BYTE_SHIFT Zs_LO_BYTE_SHIFT (by assumption) ne_a1_ca) hZ (hw _ (List.mem_of_getElem? (i := 130) rfl)) (hw _ (List.mem_of_getElem? (i := 4) rfl)) (by decide) (by decide)) (g := (mkF m 10 #[.val (.ref a1), .val (.ref ca), .val (.int (0 : Int32)), .val (.int (1 : Int32))] [.null, (.int (1 : Int32)), (.int (0 : Int32)), (.ref ca), (.ref a1)])) rfl (by rw [hml]; rfl) (Steps.refl _) (a := a1) (argsL := [(.ref ca), (.int (0 : Int32)), (.int (1 : Int32)), .null]) (rest := []) (lenOf pd_17 rfl) rfl (by show 2 * 0 + _ ≤ _; exact Nat.le_of_eq rfl) (hb hby d15_10) (fun _ _ => ⟨rfl, e2, (by decide : 0 + 2 ≤ _), (by decide : 0 + 3 ≤ _)⟩)
  dsimp only [Pt.U, Pt.locs, Pt.cells, Pt.slots] at X5 l5 y5 z5 st5 hQ5
  subst y5 z5
  obtain ⟨ba_5, bcl_5, rfl, Nq5, K5, p5_1, p5_2, p5_3, p5_4, p5_5, p5_6, p5_7, p5_8⟩ := hQ5
  have N6 : Fr n0 L5 := by rw [l5]; exact Fr.app N3 Nq5
  have J7 : ∀ t, Steps p.tables e below (T5.setTop (mkF m 13 #[.val (.ref a1), .val (.ref ca), .val (.int (0 : Int32)), .val (.int (1 : Int32))] [])) t → Steps p.tables e below (s₁.setTop (entryFrame m #[(.ref a1), (.ref ca), (.int (0 : Int32)), (.int (1 : Int32))] 4)) t := fun t k => J4 t (st5.trans k)
  have Z8 : n0 ≤ T5.heap.size := Nat.le_trans Z0 K5.1
  have KK9 : Keep h0 T5.heap [a1] := (Keep.refl h0 [a1]).trans K5 (allS (Or.inl (List.mem_of_getElem? (i := 0) rfl)) all0)
  obtain ⟨fs, hr, hrun, hended, hW, hsame⟩ := X5.leave (v := none) (fun _ => rfl)
  refine ⟨_, _, J7 _ ?_, hrun, hended, _, _, rfl, ?_, ⟨_, rfl⟩, hW, hsame.mono (by decide) (by decide)⟩
  · show Steps p.tables e below (T5.setTop (mkF m 13 #[.val (.ref a1), .val (.ref ca), .val (.int (0 : Int32)), .val (.int (1 : Int32))] [])) _
    exact X5.returnOut hx Bd.returns (hb hby d15_13) hr
  · show Q15U Z a1 ca ccl ch u1 u2 cs fm h0 n0 _ T5.heap _
    exact ⟨ba_5, bcl_5, rfl, N6, KK9, p5_1, p5_2, p5_3, p5_4, p5_5, p5_6, p5_7, (Nat.le_trans (Keep.refl h0 [a1]).1 p5_8)⟩
def Q11U (Z : State) (a1 : Addr) (ca : Addr) (ccl : Cell) (ch : Int32) (ea : Addr) (ecl : Cell) (cs : Int32) (fm : Value) (h0 : Heap) (n0 : Nat) (v : Option Value) (h : Heap) (L : List Loc) : Prop := ∃ (lst : Addr) (el : Addr) (lcl : Cell) (st : Addr) (ba : Addr) (bcl : Cell), v = some (.ref lst) ∧ Fr n0 L ∧ Keep h0 h [] ∧ (Exa Z h lst "java/util/ArrayList") ∧ (Fld Z h lst "java/util/ArrayList" "size" "I" (.int (1 : Int32))) ∧ (Fld Z h lst "java/util/ArrayList" "elementData" "[Ljava/lang/Object;" (.ref el)) ∧ (Arr Z h el lcl (.object "java/lang/Object")) ∧ (lcl.slots.size = 1) ∧ (lcl.slots[0]? = some (.ref st)) ∧ (Exa Z h st "java/lang/String") ∧ (Fld Z h st "java/lang/String" "value" "[B" (.ref ba)) ∧ (Fld Z h st "java/lang/String" "coder" "B" (.int (1 : Int32))) ∧ (Arr Z h ba bcl .byte) ∧ (bcl.slots.size = 2) ∧ (bcl.slots[0]? = some (.int (own_u0 ch))) ∧ (bcl.slots[1]? = some (.int (own_u1 ch)))
set_option maxRecDepth 65536 in
set_option maxHeartbeats 40000000 in
theorem rm11U (l : Launch) (Z : State) (a0 : Array Value) (hw : ∀ d ∈ tables_1, d.before a0 Z = true) (ws : List Jvm.Cond) (a1 : Addr) (ca : Addr) (ccl : Cell) (ch : Int32) (ea : Addr) (ecl : Cell) (cs : Int32) (fm : Value) (h0 : Heap) (n0 : Nat) (Z0 : n0 ≤ h0.size) (E_a1 : Exa Z h0 a1 "com/example/capwright/capwright/csv/CsvRow") (F_size_a1 : Fld Z h0 a1 "com/example/capwright/capwright/csv/CsvRow" "size" "I" (.int (1 : Int32))) (F_chars_a1 : Fld Z h0 a1 "com/example/capwright/capwright/csv/CsvRow" "chars" "[C" (.ref ca)) (F_ends_a1 : Fld Z h0 a1 "com/example/capwright/capwright/csv/CsvRow" "ends" "[I" (.ref ea)) (Ar_ca : Arr Z h0 ca ccl .char) (hcz : ccl.slots.size = 256) (hc0 : ccl.slots[0]? = some (.int ch)) (Ar_ea : Arr Z h0 ea ecl .int) (hez : ecl.slots.size = 16) (he0 : ecl.slots[0]? = some (.int (1 : Int32))) (hk : (255 : Int32) < ch) (O : Old Z n0 h0) (Zs_COMPACT_STRINGS : Sta Z Z.heap "java/lang/String" "COMPACT_STRINGS" "Z" (.int cs)) (hcs : ¬ cs = (0 : Int32)) (Zs__assertionsDisabled : Sta Z Z.heap "java/lang/StringUTF16" "$assertionsDisabled" "Z" (.int (1 : Int32))) (Zs_HI_BYTE_SHIFT : Sta Z Z.heap "java/lang/StringUTF16" "HI_BYTE_SHIFT" "I" (.int (0 : Int32))) (Zs_LO_BYTE_SHIFT : Sta Z Z.heap "java/lang/StringUTF16" "LO_BYTE_SHIFT" "I" (.int (8 : Int32))) (hch : own_ch ch) (Zs_SIOOBE_FORMATTER : Sta Z Z.heap "jdk/internal/util/Preconditions" "SIOOBE_FORMATTER" "Ljava/util/function/BiFunction;" fm) (hfm : fm.isRef = true) :
    MetFree l (⟨"com/example/capwright/capwright/csv/CsvRow", "fields", "()Ljava/util/List;"⟩ : MethodName) (head1 (Jvm.Cond.code (⟨"com/example/capwright/capwright/csv/CsvRow", "fields", "()Ljava/util/List;"⟩ : MethodName) prog_18_method_8_code 4 (some (.object "java/util/List")) :: ws) ({ frames := 6, cells := 5, slots := 11, locals := 91 } : Room)) (fun a U => a = #[(.ref a1)] ∧ Z.Warmed39 U.vm ∧ U.heap = h0) (fun _ _ _ _ _ => True) (fun _ U o U' => ∃ v L, o = .returned v ∧ Q11U Z a1 ca ccl ch ea ecl cs fm h0 n0 v U'.heap L ∧ FrameEnd U o U' L ({ frames := 6, cells := 5, slots := 11, locals := 91 } : Room).cells ({ frames := 6, cells := 5, slots := 11, locals := 91 } : Room).slots) := by
  refine MetFree.of_bodySF (plainFor_of_name pn_11) hisR ?_
  intro p e s m args below meth c s₁ Bd hml0 hP hK
  obtain ⟨rfl, hZ, hh⟩ := hP
  have hx := Bd.exec
  have hby := Bd.bytes
  have hml : c.maxLocals = 4 := hml0
  have hown : s.vm.findClass "com/example/capwright/capwright/csv/CsvRow" = some m.cls := findClass_of_methodNamed Bd.named
  have hnm := (name_of_methodNamed Bd.named Bd.method).1
  have X0 : Stand p l e ({ frames := 6, cells := 5, slots := 11, locals := 91 } : Room) s m #[(.ref a1)] below meth c s₁ [] 0 0 := Stand.of_body Bd
  have e0 : s₁.heap = h0 := by rw [← hh, Bd.state]; rfl
  have N0 := Fr.nil n0
  have pre0 : ∀ t, Steps p.tables e below (s₁.setTop (mkF m 0 #[.val (.ref a1), .unset, .unset, .unset] [])) t → Steps p.tables e below (s₁.setTop (entryFrame m #[(.ref a1)] 4)) t := fun t k => castTop (ef_11_x m a1) k
  obtain ⟨T1, h1, X1, e1, E1, A1, D1, -, st1⟩ := newO X0 hx hZ hown (hw _ (List.mem_of_getElem? (i := 87) rfl)) (hw _ (List.mem_of_getElem? (i := 88) rfl)) (hw _ (List.mem_of_getElem? (i := 89) rfl)) e0 (g := (mkF m 0 #[.val (.ref a1), .unset, .unset, .unset] [])) rfl (hb hby d11_0) (by decide) (by decide)
  obtain ⟨b1, g1⟩ : ∃ z, z = h0.size := ⟨_, rfl⟩
  rw [← g1] at A1 D1 st1
  have J2 : ∀ t, Steps p.tables e below (T1.setTop (mkF m 3 #[.val (.ref a1), .unset, .unset, .unset] [(.ref b1)])) t → Steps p.tables e below (s₁.setTop (entryFrame m #[(.ref a1)] 4)) t := fun t k => pre0 t (st1 t k)
  have ne3 : a1 ≠ b1 := Nat.ne_of_lt (Nat.lt_of_lt_of_le E_a1.lt (Nat.le_of_eq g1.symm))
  have ne4 : ca ≠ b1 := Nat.ne_of_lt (Nat.lt_of_lt_of_le Ar_ca.lt (Nat.le_of_eq g1.symm))
  have ne5 : ea ≠ b1 := Nat.ne_of_lt (Nat.lt_of_lt_of_le Ar_ea.lt (Nat.le_of_eq g1.symm))
  have ge6 : n0 ≤ b1 := Nat.le_trans Z0 (Nat.le_of_eq g1.symm)
  have sz7 : h0.size ≤ b1 := Nat.le_trans (Keep.refl h0 []).1 (Nat.le_of_eq g1.symm)
  have Z8 : n0 ≤ h1.size := Nat.le_trans Z0 E1.1
  have KK9 : Keep h0 h1 [] := (Keep.refl h0 []).ext E1
  have F1_modCount : Fld Z h1 b1 "java/util/AbstractList" "modCount" "I" (.int (0 : Int32)) := D1 (Or.inl (hw _ (List.mem_of_getElem? (i := 107) rfl))) (ty := .int) (by decide)
  have F1_elementData : Fld Z h1 b1 "java/util/ArrayList" "elementData" "[Ljava/lang/Object;" .null := D1 (Or.inl (hw _ (List.mem_of_getElem? (i := 111) rfl))) (ty := (.array (.object "java/lang/Object"))) (by decide)
  have F1_size : Fld Z h1 b1 "java/util/ArrayList" "size" "I" (.int (0 : Int32)) := D1 (Or.inl (hw _ (List.mem_of_getElem? (i := 157) rfl))) (ty := .int) (by decide)
  have J10 : ∀ t, Steps p.tables e below (T1.setTop (mkF m 5 #[.val (.ref a1), .unset, .unset, .unset] [(.ref a1), (.ref b1), (.ref b1)])) t → Steps p.tables e below (s₁.setTop (entryFrame m #[(.ref a1)] 4)) t := fun t k => J2 t (by
      show Steps p.tables e below (T1.setTop (mkF m 3 #[.val (.ref a1), .unset, .unset, .unset] [(.ref b1)])) _
      refine XS.dup X1.here hx rfl (hb hby d11_3) rfl rfl ?_
      show Steps p.tables e below (T1.setTop (mkF m 4 #[.val (.ref a1), .unset, .unset, .unset] [(.ref b1), (.ref b1)])) _
      refine XS.aloadN X1.here hx rfl (hb hby d11_4) rfl rfl ?_
      exact k)
  have f11 := F_size_a1.ext E1
  obtain ⟨T12, X12, e12, st12⟩ := getF X1 hx hZ hown (host := "") (Or.inl (hw _ (List.mem_of_getElem? (i := 49) rfl))) Via.refl e1 f11 (g := (mkF m 5 #[.val (.ref a1), .unset, .unset, .unset] [(.ref a1), (.ref b1), (.ref b1)])) rfl rfl (hb hby d11_5)
  have J13 : ∀ t, Steps p.tables e below (T12.setTop (mkF m 8 #[.val (.ref a1), .unset, .unset, .unset] [(.int (1 : Int32)), (.ref b1), (.ref b1)])) t → Steps p.tables e below (s₁.setTop (entryFrame m #[(.ref a1)] 4)) t := fun t k => J10 t (st12 t k)
  have f14 := E_a1.ext E1
  have f15 := Ar_ca.ext E1
  have f16 := Ar_ea.ext E1
  obtain ⟨_, _, ⟨T17, L17, k17, n17⟩, -, X17, ⟨Lc17, hQ17, l17, y17, z17⟩, st17⟩ := X12.specialBack hx (y := (⟨"java/util/ArrayList", "<init>", "(I)V"⟩ : MethodName)) rfl hown (mvT hZ (hw _ (List.mem_of_getElem? (i := 90) rfl))) (mvT hZ (hw _ (List.mem_of_getElem? (i := 91) rfl))) (mvT hZ (hw _ (List.mem_of_getElem? (i := 92) rfl))) (by decide) (backOf (W := 1) (rm12 l Z a0 hw [] b1 (.int (0 : Int32)) .null (0 : Int32) h1 n0 Z8 A1 ge6 F1_modCount F1_elementData F1_size) hZ (hw _ (List.mem_of_getElem? (i := 92) rfl)) (hw _ (List.mem_of_getElem? (i := 89) rfl)) (by decide) (by decide)) (g := (mkF m 8 #[.val (.ref a1), .unset, .unset, .unset] [(.int (1 : Int32)), (.ref b1), (.ref b1)])) rfl (by rw [hml]; rfl) (Steps.refl _) (a := b1) (argsL := [(.int (1 : Int32))]) (rest := [(.ref b1)]) (lenOf pd_18 rfl) rfl (by show 2 * 0 + _ ≤ _; exact Nat.le_of_eq rfl) (hb hby d11_8) (fun _ _ => ⟨rfl, e12, (by decide : 1 + 1 ≤ _), (by decide : 3 + 1 ≤ _)⟩)
  dsimp only [Pt.U, Pt.locs, Pt.cells, Pt.slots] at X17 l17 y17 z17 st17 hQ17
  subst y17 z17
  obtain ⟨el_17, lcl_17, rfl, Nq17, K17, p17_1, p17_2, p17_3, p17_4, p17_5, p17_6, p17_7, p17_8, p17_9⟩ := hQ17
  have N18 : Fr n0 L17 := by rw [l17]; exact Fr.app N0 Nq17
  have J19 : ∀ t, Steps p.tables e below (T17.setTop (mkF m 11 #[.val (.ref a1), .unset, .unset, .unset] [(.ref b1)])) t → Steps p.tables e below (s₁.setTop (entryFrame m #[(.ref a1)] 4)) t := fun t k => J13 t (st17.trans k)
  have Z20 : n0 ≤ T17.heap.size := Nat.le_trans Z8 K17.1
  have KK21 : Keep h0 T17.heap [] := KK9.trans K17 (allS (Or.inr sz7) all0)
  have J22 : ∀ t, Steps p.tables e below (T17.setTop (mkF m 16 #[.val (.ref a1), .val (.ref b1), .val (.int (0 : Int32)), .unset] [(.ref a1), (.int (0 : Int32))])) t → Steps p.tables e below (s₁.setTop (entryFrame m #[(.ref a1)] 4)) t := fun t k => J19 t (by
      show Steps p.tables e below (T17.setTop (mkF m 11 #[.val (.ref a1), .unset, .unset, .unset] [(.ref b1)])) _
      refine XS.astoreN X17.here hx rfl (hb hby d11_11) rfl rfl (l' := #[.val (.ref a1), .val (.ref b1), .unset, .unset]) rfl ?_
      show Steps p.tables e below (T17.setTop (mkF m 12 #[.val (.ref a1), .val (.ref b1), .unset, .unset] [])) _
      refine XS.iconst X17.here hx rfl (hb hby d11_12) ?_
      show Steps p.tables e below (T17.setTop (mkF m 13 #[.val (.ref a1), .val (.ref b1), .unset, .unset] [(.int (0 : Int32))])) _
      refine XS.istoreN X17.here hx rfl (hb hby d11_13) rfl (l' := #[.val (.ref a1), .val (.ref b1), .val (.int (0 : Int32)), .unset]) rfl ?_
      show Steps p.tables e below (T17.setTop (mkF m 14 #[.val (.ref a1), .val (.ref b1), .val (.int (0 : Int32)), .unset] [])) _
      refine XS.iloadN X17.here hx rfl (hb hby d11_14) rfl ?_
      show Steps p.tables e below (T17.setTop (mkF m 15 #[.val (.ref a1), .val (.ref b1), .val (.int (0 : Int32)), .unset] [(.int (0 : Int32))])) _
      refine XS.aloadN X17.here hx rfl (hb hby d11_15) rfl rfl ?_
      exact k)
  have f23 := f11.keep K17 (ninS ne3 nin0)
  obtain ⟨T24, X24, e24, st24⟩ := getF X17 hx hZ hown (host := "") (Or.inl (hw _ (List.mem_of_getElem? (i := 49) rfl))) Via.refl rfl f23 (g := (mkF m 16 #[.val (.ref a1), .val (.ref b1), .val (.int (0 : Int32)), .unset] [(.ref a1), (.int (0 : Int32))])) rfl rfl (hb hby d11_16)
  have J25 : ∀ t, Steps p.tables e below (T24.setTop (mkF m 19 #[.val (.ref a1), .val (.ref b1), .val (.int (0 : Int32)), .unset] [(.int (1 : Int32)), (.int (0 : Int32))])) t → Steps p.tables e below (s₁.setTop (entryFrame m #[(.ref a1)] 4)) t := fun t k => J22 t (st24 t k)
  have J26 : ∀ t, Steps p.tables e below (T24.setTop (mkF m 40 #[.val (.ref a1), .val (.ref b1), .val (.int (0 : Int32)), .val (.int (0 : Int32))] [(.ref b1)])) t → Steps p.tables e below (s₁.setTop (entryFrame m #[(.ref a1)] 4)) t := fun t k => J25 t (by
      show Steps p.tables e below (T24.setTop (mkF m 19 #[.val (.ref a1), .val (.ref b1), .val (.int (0 : Int32)), .unset] [(.int (1 : Int32)), (.int (0 : Int32))])) _
      refine XS.icmpNo X24.here hx rfl (hb hby d11_19) rfl (tlt (by decide)).2.1 ?_
      show Steps p.tables e below (T24.setTop (mkF m 22 #[.val (.ref a1), .val (.ref b1), .val (.int (0 : Int32)), .unset] [])) _
      refine XS.iloadN X24.here hx rfl (hb hby d11_22) rfl ?_
      show Steps p.tables e below (T24.setTop (mkF m 23 #[.val (.ref a1), .val (.ref b1), .val (.int (0 : Int32)), .unset] [(.int (0 : Int32))])) _
      refine XS.ifNo X24.here hx rfl (hb hby d11_23) rfl ((if0 _ _).trans (teq (by decide)).2) ?_
      show Steps p.tables e below (T24.setTop (mkF m 26 #[.val (.ref a1), .val (.ref b1), .val (.int (0 : Int32)), .unset] [])) _
      refine XS.iconst X24.here hx rfl (hb hby d11_26) ?_
      show Steps p.tables e below (T24.setTop (mkF m 27 #[.val (.ref a1), .val (.ref b1), .val (.int (0 : Int32)), .unset] [(.int (0 : Int32))])) _
      refine XS.goto X24.here hx rfl (pc0 := 27) (pc' := 38) rfl (hb hby d11_27) (by decide) (by decide) ?_
      show Steps p.tables e below (T24.setTop (mkF m 38 #[.val (.ref a1), .val (.ref b1), .val (.int (0 : Int32)), .unset] [(.int (0 : Int32))])) _
      refine XS.istoreN X24.here hx rfl (hb hby d11_38) rfl (l' := #[.val (.ref a1), .val (.ref b1), .val (.int (0 : Int32)), .val (.int (0 : Int32))]) rfl ?_
      show Steps p.tables e below (T24.setTop (mkF m 39 #[.val (.ref a1), .val (.ref b1), .val (.int (0 : Int32)), .val (.int (0 : Int32))] [])) _
      refine XS.aloadN X24.here hx rfl (hb hby d11_39) rfl rfl ?_
      exact k)
  have f28 := f14.keep K17
  have f29 : Arr Z T17.heap ca ccl .char := ⟨K17.2.1 _ _ f15.1 (ninS ne4 nin0), f15.2⟩
  have f30 : Arr Z T17.heap ea ecl .int := ⟨K17.2.1 _ _ f16.1 (ninS ne5 nin0), f16.2⟩
  obtain ⟨T27, h27, X27, e27, E27, A27, D27, -, st27⟩ := newO X24 hx hZ hown (hw _ (List.mem_of_getElem? (i := 112) rfl)) (hw _ (List.mem_of_getElem? (i := 5) rfl)) (hw _ (List.mem_of_getElem? (i := 4) rfl)) e24 (g := (mkF m 40 #[.val (.ref a1), .val (.ref b1), .val (.int (0 : Int32)), .val (.int (0 : Int32))] [(.ref b1)])) rfl (hb hby d11_40) (by decide) (by decide)
  obtain ⟨b27, g27⟩ : ∃ z, z = T17.heap.size := ⟨_, rfl⟩
  rw [← g27] at A27 D27 st27
  have J31 : ∀ t, Steps p.tables e below (T27.setTop (mkF m 43 #[.val (.ref a1), .val (.ref b1), .val (.int (0 : Int32)), .val (.int (0 : Int32))] [(.ref b27), (.ref b1)])) t → Steps p.tables e below (s₁.setTop (entryFrame m #[(.ref a1)] 4)) t := fun t k => J26 t (st27 t k)
  have ne32 : a1 ≠ b27 := Nat.ne_of_lt (Nat.lt_of_lt_of_le f28.lt (Nat.le_of_eq g27.symm))
  have ne33 : ca ≠ b27 := Nat.ne_of_lt (Nat.lt_of_lt_of_le f29.lt (Nat.le_of_eq g27.symm))
  have ne34 : ea ≠ b27 := Nat.ne_of_lt (Nat.lt_of_lt_of_le f30.lt (Nat.le_of_eq g27.symm))
  have ne35 : b1 ≠ b27 := Nat.ne_of_lt (Nat.lt_of_lt_of_le p17_1.lt (Nat.le_of_eq g27.symm))
  have ne36 : el_17 ≠ b27 := Nat.ne_of_lt (Nat.lt_of_lt_of_le p17_5.lt (Nat.le_of_eq g27.symm))
  have ge37 : n0 ≤ b27 := Nat.le_trans Z20 (Nat.le_of_eq g27.symm)
  have sz38 : h0.size ≤ b27 := Nat.le_trans KK21.1 (Nat.le_of_eq g27.symm)
  have Z39 : n0 ≤ h27.size := Nat.le_trans Z20 E27.1
  have KK40 : Keep h0 h27 [] := KK21.ext E27
  have F27_value : Fld Z h27 b27 "java/lang/String" "value" "[B" .null := D27 (Or.inr (hw _ (List.mem_of_getElem? (i := 7) rfl))) (ty := (.array .byte)) (by decide)
  have F27_coder : Fld Z h27 b27 "java/lang/String" "coder" "B" (.int (0 : Int32)) := D27 (Or.inr (hw _ (List.mem_of_getElem? (i := 8) rfl))) (ty := .byte) (by decide)
  have J41 : ∀ t, Steps p.tables e below (T27.setTop (mkF m 45 #[.val (.ref a1), .val (.ref b1), .val (.int (0 : Int32)), .val (.int (0 : Int32))] [(.ref a1), (.ref b27), (.ref b27), (.ref b1)])) t → Steps p.tables e below (s₁.setTop (entryFrame m #[(.ref a1)] 4)) t := fun t k => J31 t (by
      show Steps p.tables e below (T27.setTop (mkF m 43 #[.val (.ref a1), .val (.ref b1), .val (.int (0 : Int32)), .val (.int (0 : Int32))] [(.ref b27), (.ref b1)])) _
      refine XS.dup X27.here hx rfl (hb hby d11_43) rfl rfl ?_
      show Steps p.tables e below (T27.setTop (mkF m 44 #[.val (.ref a1), .val (.ref b1), .val (.int (0 : Int32)), .val (.int (0 : Int32))] [(.ref b27), (.ref b27), (.ref b1)])) _
      refine XS.aloadN X27.here hx rfl (hb hby d11_44) rfl rfl ?_
      exact k)
  have f42 := F_chars_a1.ext E1
  have f43 := f42.keep K17 (ninS ne3 nin0)
  have f44 := f43.ext E27
  obtain ⟨T45, X45, e45, st45⟩ := getF X27 hx hZ hown (host := "") (Or.inl (hw _ (List.mem_of_getElem? (i := 45) rfl))) Via.refl e27 f44 (g := (mkF m 45 #[.val (.ref a1), .val (.ref b1), .val (.int (0 : Int32)), .val (.int (0 : Int32))] [(.ref a1), (.ref b27), (.ref b27), (.ref b1)])) rfl rfl (hb hby d11_45)
  have J46 : ∀ t, Steps p.tables e below (T45.setTop (mkF m 48 #[.val (.ref a1), .val (.ref b1), .val (.int (0 : Int32)), .val (.int (0 : Int32))] [(.ref ca), (.ref b27), (.ref b27), (.ref b1)])) t → Steps p.tables e below (s₁.setTop (entryFrame m #[(.ref a1)] 4)) t := fun t k => J41 t (st45 t k)
  have J47 : ∀ t, Steps p.tables e below (T45.setTop (mkF m 50 #[.val (.ref a1), .val (.ref b1), .val (.int (0 : Int32)), .val (.int (0 : Int32))] [(.ref a1), (.int (0 : Int32)), (.ref ca), (.ref b27), (.ref b27), (.ref b1)])) t → Steps p.tables e below (s₁.setTop (entryFrame m #[(.ref a1)] 4)) t := fun t k => J46 t (by
      show Steps p.tables e below (T45.setTop (mkF m 48 #[.val (.ref a1), .val (.ref b1), .val (.int (0 : Int32)), .val (.int (0 : Int32))] [(.ref ca), (.ref b27), (.ref b27), (.ref b1)])) _
      refine XS.iloadN X45.here hx rfl (hb hby d11_48) rfl ?_
      show Steps p.tables e below (T45.setTop (mkF m 49 #[.val (.ref a1), .val (.ref b1), .val (.int (0 : Int32)), .val (.int (0 : Int32))] [(.int (0 : Int32)), (.ref ca), (.ref b27), (.ref b27), (.ref b1)])) _
      refine XS.aloadN X45.here hx rfl (hb hby d11_49) rfl rfl ?_
      exact k)
  have f48 := F_ends_a1.ext E1
  have f49 := f48.keep K17 (ninS ne3 nin0)
  have f50 := f49.ext E27
  obtain ⟨T51, X51, e51, st51⟩ := getF X45 hx hZ hown (host := "") (Or.inl (hw _ (List.mem_of_getElem? (i := 47) rfl))) Via.refl e45 f50 (g := (mkF m 50 #[.val (.ref a1), .val (.ref b1), .val (.int (0 : Int32)), .val (.int (0 : Int32))] [(.ref a1), (.int (0 : Int32)), (.ref ca), (.ref b27), (.ref b27), (.ref b1)])) rfl rfl (hb hby d11_50)
  have J52 : ∀ t, Steps p.tables e below (T51.setTop (mkF m 53 #[.val (.ref a1), .val (.ref b1), .val (.int (0 : Int32)), .val (.int (0 : Int32))] [(.ref ea), (.int (0 : Int32)), (.ref ca), (.ref b27), (.ref b27), (.ref b1)])) t → Steps p.tables e below (s₁.setTop (entryFrame m #[(.ref a1)] 4)) t := fun t k => J47 t (st51 t k)
  have J53 : ∀ t, Steps p.tables e below (T51.setTop (mkF m 54 #[.val (.ref a1), .val (.ref b1), .val (.int (0 : Int32)), .val (.int (0 : Int32))] [(.int (0 : Int32)), (.ref ea), (.int (0 : Int32)), (.ref ca), (.ref b27), (.ref b27), (.ref b1)])) t → Steps p.tables e below (s₁.setTop (entryFrame m #[(.ref a1)] 4)) t := fun t k => J52 t (by
      show Steps p.tables e below (T51.setTop (mkF m 53 #[.val (.ref a1), .val (.ref b1), .val (.int (0 : Int32)), .val (.int (0 : Int32))] [(.ref ea), (.int (0 : Int32)), (.ref ca), (.ref b27), (.ref b27), (.ref b1)])) _
      refine XS.iloadN X51.here hx rfl (hb hby d11_53) rfl ?_
      exact k)
  have f54 := f30.ext E27
  have J55 : ∀ t, Steps p.tables e below (T51.setTop (mkF m 57 #[.val (.ref a1), .val (.ref b1), .val (.int (0 : Int32)), .val (.int (0 : Int32))] [(.int ((1 : Int32) - (0 : Int32))), (.int (0 : Int32)), (.ref ca), (.ref b27), (.ref b27), (.ref b1)])) t → Steps p.tables e below (s₁.setTop (entryFrame m #[(.ref a1)] 4)) t := fun t k => J53 t (by
      show Steps p.tables e below (T51.setTop (mkF m 54 #[.val (.ref a1), .val (.ref b1), .val (.int (0 : Int32)), .val (.int (0 : Int32))] [(.int (0 : Int32)), (.ref ea), (.int (0 : Int32)), (.ref ca), (.ref b27), (.ref b27), (.ref b1)])) _
      refine X51.iaload hx (j := (0 : Int32)) (v := (.int (1 : Int32))) (by rw [e51]; exact f54.1) (State.isArrayOf_alike hZ.alike f54.2.1) f54.2.2 (own_in hez (by decide) (by decide)) (own_at (by decide) he0) (g := (mkF m 54 #[.val (.ref a1), .val (.ref b1), .val (.int (0 : Int32)), .val (.int (0 : Int32))] [(.int (0 : Int32)), (.ref ea), (.int (0 : Int32)), (.ref ca), (.ref b27), (.ref b27), (.ref b1)])) rfl rfl (hb hby d11_54) _ ?_
      show Steps p.tables e below (T51.setTop (mkF m 55 #[.val (.ref a1), .val (.ref b1), .val (.int (0 : Int32)), .val (.int (0 : Int32))] [(.int (1 : Int32)), (.int (0 : Int32)), (.ref ca), (.ref b27), (.ref b27), (.ref b1)])) _
      refine XS.iloadN X51.here hx rfl (hb hby d11_55) rfl ?_
      show Steps p.tables e below (T51.setTop (mkF m 56 #[.val (.ref a1), .val (.ref b1), .val (.int (0 : Int32)), .val (.int (0 : Int32))] [(.int (0 : Int32)), (.int (1 : Int32)), (.int (0 : Int32)), (.ref ca), (.ref b27), (.ref b27), (.ref b1)])) _
      refine XS.isub X51.here hx rfl (hb hby d11_56) rfl ?_
      exact k)
  have J56 : ∀ t, Steps p.tables e below (T51.setTop (mkF m 57 #[.val (.ref a1), .val (.ref b1), .val (.int (0 : Int32)), .val (.int (0 : Int32))] [(.int (1 : Int32)), (.int (0 : Int32)), (.ref ca), (.ref b27), (.ref b27), (.ref b1)])) t → Steps p.tables e below (s₁.setTop (entryFrame m #[(.ref a1)] 4)) t := fun t k => J55 t (by rw [(by decide : ((1 : Int32) - (0 : Int32)) = (1 : Int32))]; exact k)
  have f57 := f28.ext E27
  have f58 := f29.ext E27
  have f59 := p17_1.ext E27
  have f60 := p17_5.ext E27
  have f61 := O.ext E1
  have f62 := f61.keep K17 (allS ge6 all0)
  have f63 := f62.ext E27
  obtain ⟨_, _, ⟨T64, L64, k64, n64⟩, -, X64, ⟨Lc64, hQ64, l64, y64, z64⟩, st64⟩ := X51.specialBack hx (y := (⟨"java/lang/String", "<init>", "([CII)V"⟩ : MethodName)) rfl hown (mvT hZ (hw _ (List.mem_of_getElem? (i := 113) rfl))) (mvT hZ (hw _ (List.mem_of_getElem? (i := 114) rfl))) (mvT hZ (hw _ (List.mem_of_getElem? (i := 115) rfl))) (by decide) (backOf (W := 2) (rm15U l Z a0 hw [] b27 ca ccl ch .null (.int (0 : Int32)) cs fm h27 n0 Z39 A27 ge37 F27_value F27_coder f58 (by assumption) (by assumption) (by assumption) f63 Zs_COMPACT_STRINGS (by assumption) Zs__assertionsDisabled Zs_HI_BYTE_SHIFT Zs_LO_BYTE_SHIFT (by assumption) (Ne.symm ne33) Zs_SIOOBE_FORMATTER (by assumption)) hZ (hw _ (List.mem_of_getElem? (i := 115) rfl)) (hw _ (List.mem_of_getElem? (i := 4) rfl)) (by decide) (by decide)) (g := (mkF m 57 #[.val (.ref a1), .val (.ref b1), .val (.int (0 : Int32)), .val (.int (0 : Int32))] [(.int (1 : Int32)), (.int (0 : Int32)), (.ref ca), (.ref b27), (.ref b27), (.ref b1)])) rfl (by rw [hml]; rfl) (Steps.refl _) (a := b27) (argsL := [(.ref ca), (.int (0 : Int32)), (.int (1 : Int32))]) (rest := [(.ref b27), (.ref b1)]) (lenOf pd_19 rfl) rfl (by show 2 * 0 + _ ≤ _; exact Nat.le_of_eq rfl) (hb hby d11_57) (fun _ _ => ⟨rfl, e51, (by decide : 3 + 2 ≤ _), (by decide : 8 + 3 ≤ _)⟩)
  dsimp only [Pt.U, Pt.locs, Pt.cells, Pt.slots] at X64 l64 y64 z64 st64 hQ64
  subst y64 z64
  obtain ⟨ba_64, bcl_64, rfl, Nq64, K64, p64_1, p64_2, p64_3, p64_4, p64_5, p64_6, p64_7, p64_8⟩ := hQ64
  have N65 : Fr n0 L64 := by rw [l64]; exact Fr.app N18 Nq64
  have J66 : ∀ t, Steps p.tables e below (T64.setTop (mkF m 60 #[.val (.ref a1), .val (.ref b1), .val (.int (0 : Int32)), .val (.int (0 : Int32))] [(.ref b27), (.ref b1)])) t → Steps p.tables e below (s₁.setTop (entryFrame m #[(.ref a1)] 4)) t := fun t k => J56 t (st64.trans k)
  have Z67 : n0 ≤ T64.heap.size := Nat.le_trans Z39 K64.1
  have KK68 : Keep h0 T64.heap [] := KK40.trans K64 (allS (Or.inr sz38) all0)
  have f69 := f59.keep K64
  have f70 : Arr Z T64.heap el_17 lcl_17 (.object "java/lang/Object") := ⟨K64.2.1 _ _ f60.1 (ninS ne36 nin0), f60.2⟩
  have f71 := p17_3.ext E27
  have f72 := f71.keep K64 (ninS ne35 nin0)
  have f73 := p17_4.ext E27
  have f74 := f73.keep K64 (ninS ne35 nin0)
  have f75 := p17_2.ext E27
  have f76 := f75.keep K64 (ninS ne35 nin0)
  obtain ⟨cq77, kq77, q77a, q77b, q77c⟩ := isOf hZ rfl f69
  obtain ⟨_, _, ⟨T77, L77, k77, n77⟩, -, X77, ⟨Lc77, hQ77, l77, y77, z77⟩, st77⟩ := X64.interfaceBack hx (xi := (⟨"java/util/List", "add", "(Ljava/lang/Object;)Z"⟩ : MethodName)) (y := (⟨"java/util/ArrayList", "add", "(Ljava/lang/Object;)Z"⟩ : MethodName)) hown (mvT hZ (hw _ (List.mem_of_getElem? (i := 145) rfl))) (mvT hZ (hw _ (List.mem_of_getElem? (i := 146) rfl))) (mvT hZ (hw _ (List.mem_of_getElem? (i := 147) rfl))) (mvT hZ (hw _ (List.mem_of_getElem? (i := 148) rfl))) (mvT hZ (hw _ (List.mem_of_getElem? (i := 149) rfl))) (mvT hZ (hw _ (List.mem_of_getElem? (i := 150) rfl))) (mvT hZ (hw _ (List.mem_of_getElem? (i := 151) rfl))) (mvT hZ (hw _ (List.mem_of_getElem? (i := 152) rfl))) (by decide) (backOf (W := 0) (rm23 l Z a0 hw [] b1 b27 el_17 lcl_17 (0 : Int32) T64.heap n0 Z67 f69 ge6 f70 p17_6 p17_7 p17_8 p64_1 (Ne.symm (Nat.ne_of_lt (Nat.lt_of_lt_of_le A1.lt p17_9))) (Ne.symm ne35) (Ne.symm ne36) f72 f74 f76) hZ (hw _ (List.mem_of_getElem? (i := 153) rfl)) (hw _ (List.mem_of_getElem? (i := 89) rfl)) (by decide) (by decide)) q77a q77b q77c (g := (mkF m 60 #[.val (.ref a1), .val (.ref b1), .val (.int (0 : Int32)), .val (.int (0 : Int32))] [(.ref b27), (.ref b1)])) rfl (by rw [hml]; rfl) (Steps.refl _) (argsL := [(.ref b27)]) (rest := []) (lenOf pd_20 rfl) rfl (by show 2 * 0 + _ ≤ _; exact Nat.le_of_eq rfl) (hb hby d11_60) (fun _ _ => ⟨rfl, rfl, (by decide : 5 + 0 ≤ _), (by decide : 11 + 0 ≤ _)⟩)
  dsimp only [Pt.U, Pt.locs, Pt.cells, Pt.slots] at X77 l77 y77 z77 st77 hQ77
  subst y77 z77
  obtain ⟨lcl'_77, rfl, Nq77, K77, p77_1, p77_2, p77_3, p77_4, p77_5, p77_6⟩ := hQ77
  have N78 : Fr n0 L77 := by rw [l77]; exact Fr.app N65 Nq77
  have J79 : ∀ t, Steps p.tables e below (T77.setTop (mkF m 65 #[.val (.ref a1), .val (.ref b1), .val (.int (0 : Int32)), .val (.int (0 : Int32))] [(.int (1 : Int32))])) t → Steps p.tables e below (s₁.setTop (entryFrame m #[(.ref a1)] 4)) t := fun t k => J66 t (st77.trans k)
  have Z80 : n0 ≤ T77.heap.size := Nat.le_trans Z67 K77.1
  have KK81 : Keep h0 T77.heap [] := KK68.trans K77 (allS (Or.inr sz7) (allS (Or.inr (Nat.le_trans KK9.1 p17_9)) all0))
  have J82 : ∀ t, Steps p.tables e below (T77.setTop (mkF m 16 #[.val (.ref a1), .val (.ref b1), .val (.int ((0 : Int32) + (1 : Int32))), .val (.int (0 : Int32))] [(.ref a1), (.int ((0 : Int32) + (1 : Int32)))])) t → Steps p.tables e below (s₁.setTop (entryFrame m #[(.ref a1)] 4)) t := fun t k => J79 t (by
      show Steps p.tables e below (T77.setTop (mkF m 65 #[.val (.ref a1), .val (.ref b1), .val (.int (0 : Int32)), .val (.int (0 : Int32))] [(.int (1 : Int32))])) _
      refine XS.pop X77.here hx rfl (hb hby d11_65) rfl rfl ?_
      show Steps p.tables e below (T77.setTop (mkF m 66 #[.val (.ref a1), .val (.ref b1), .val (.int (0 : Int32)), .val (.int (0 : Int32))] [])) _
      refine XS.iinc X77.here hx rfl (hb hby d11_66) rfl (l' := #[.val (.ref a1), .val (.ref b1), .val (.int ((0 : Int32) + (1 : Int32))), .val (.int (0 : Int32))]) rfl ?_
      show Steps p.tables e below (T77.setTop (mkF m 69 #[.val (.ref a1), .val (.ref b1), .val (.int ((0 : Int32) + (1 : Int32))), .val (.int (0 : Int32))] [])) _
      refine XS.goto X77.here hx rfl (pc0 := 69) (pc' := 14) rfl (hb hby d11_69) (by decide) (by decide) ?_
      show Steps p.tables e below (T77.setTop (mkF m 14 #[.val (.ref a1), .val (.ref b1), .val (.int ((0 : Int32) + (1 : Int32))), .val (.int (0 : Int32))] [])) _
      refine XS.iloadN X77.here hx rfl (hb hby d11_14) rfl ?_
      show Steps p.tables e below (T77.setTop (mkF m 15 #[.val (.ref a1), .val (.ref b1), .val (.int ((0 : Int32) + (1 : Int32))), .val (.int (0 : Int32))] [(.int ((0 : Int32) + (1 : Int32)))])) _
      refine XS.aloadN X77.here hx rfl (hb hby d11_15) rfl rfl ?_
      exact k)
  have f83 := f23.ext E27
  have f84 := f83.keep K64 (ninS ne32 nin0)
  have f85 := f84.keep K77 (ninS ne3 (ninS (Nat.ne_of_lt (Nat.lt_of_lt_of_le f14.lt p17_9)) nin0))
  obtain ⟨T86, X86, e86, st86⟩ := getF X77 hx hZ hown (host := "") (Or.inl (hw _ (List.mem_of_getElem? (i := 49) rfl))) Via.refl rfl f85 (g := (mkF m 16 #[.val (.ref a1), .val (.ref b1), .val (.int ((0 : Int32) + (1 : Int32))), .val (.int (0 : Int32))] [(.ref a1), (.int ((0 : Int32) + (1 : Int32)))])) rfl rfl (hb hby d11_16)
  have J87 : ∀ t, Steps p.tables e below (T86.setTop (mkF m 19 #[.val (.ref a1), .val (.ref b1), .val (.int ((0 : Int32) + (1 : Int32))), .val (.int (0 : Int32))] [(.int (1 : Int32)), (.int ((0 : Int32) + (1 : Int32)))])) t → Steps p.tables e below (s₁.setTop (entryFrame m #[(.ref a1)] 4)) t := fun t k => J82 t (st86 t k)
  have J88 : ∀ t, Steps p.tables e below (T86.setTop (mkF m 73 #[.val (.ref a1), .val (.ref b1), .val (.int ((0 : Int32) + (1 : Int32))), .val (.int (0 : Int32))] [(.ref b1)])) t → Steps p.tables e below (s₁.setTop (entryFrame m #[(.ref a1)] 4)) t := fun t k => J87 t (by
      show Steps p.tables e below (T86.setTop (mkF m 19 #[.val (.ref a1), .val (.ref b1), .val (.int ((0 : Int32) + (1 : Int32))), .val (.int (0 : Int32))] [(.int (1 : Int32)), (.int ((0 : Int32) + (1 : Int32)))])) _
      refine XS.icmpYes X86.here hx rfl (pc0 := 19) (pc' := 72) rfl (hb hby d11_19) rfl (flt (by decide)).2.1 (by decide) (by decide) ?_
      show Steps p.tables e below (T86.setTop (mkF m 72 #[.val (.ref a1), .val (.ref b1), .val (.int ((0 : Int32) + (1 : Int32))), .val (.int (0 : Int32))] [])) _
      refine XS.aloadN X86.here hx rfl (hb hby d11_72) rfl rfl ?_
      exact k)
  obtain ⟨fs, hr, hrun, hended, hW, hsame⟩ := X86.leave (v := some (.ref b1)) (fun h => by rw [Bd.returns] at h; cases h)
  have f89 := p64_1.keep K77
  have f90 := p64_2.keep K77 (ninS (Ne.symm ne35) (ninS (Ne.symm ne36) nin0))
  have f91 := p64_3.keep K77 (ninS (Ne.symm ne35) (ninS (Ne.symm ne36) nin0))
  have f92 : Arr Z T77.heap ba_64 bcl_64 .byte := ⟨K77.2.1 _ _ p64_4.1 (ninS (Ne.symm (Nat.ne_of_lt (Nat.lt_of_lt_of_le f59.lt p64_8))) (ninS (Ne.symm (Nat.ne_of_lt (Nat.lt_of_lt_of_le f60.lt p64_8))) nin0)), p64_4.2⟩
  refine ⟨_, _, J88 _ ?_, hrun, hended, _, _, rfl, ?_, ⟨_, rfl⟩, hW, hsame.mono (by decide) (by decide)⟩
  · show Steps p.tables e below (T86.setTop (mkF m 73 #[.val (.ref a1), .val (.ref b1), .val (.int ((0 : Int32) + (1 : Int32))), .val (.int (0 : Int32))] [(.ref b1)])) _
    jvm_step X86.here [X86.here.top, hx, (hb hby d11_73), X86.method', Bd.returns, Value.isRef, FieldType.isReference]
    first | (intro acts; rw [hr _ acts rfl rfl rfl]) | rw [hr _ _ rfl rfl rfl]
    exact Steps.refl _
  · show Q11U Z a1 ca ccl ch ea ecl cs fm h0 n0 _ T86.heap _
    rw [e86]
    exact ⟨b1, el_17, lcl'_77, b27, ba_64, bcl_64, rfl, N78, KK81, p77_1, p77_3, p77_2, p77_4, p77_6, p77_5, f89, f90, f91, f92, p64_5, p64_6, p64_7⟩
theorem d31_11 : decode jdk_43_method_3_code 11 = .ok (.iconst 0, 1) := by decide +kernel
def Q31U (Z : State) (ch : Int32) (h0 : Heap) (n0 : Nat) (v : Option Value) (h : Heap) (L : List Loc) : Prop := v = some (.int (0 : Int32)) ∧ Fr n0 L ∧ h = h0
set_option maxRecDepth 65536 in
set_option maxHeartbeats 40000000 in
theorem rm31U (l : Launch) (Z : State) (a0 : Array Value) (hw : ∀ d ∈ tables_1, d.before a0 Z = true) (ws : List Jvm.Cond) (ch : Int32) (h0 : Heap) (n0 : Nat) (Z0 : n0 ≤ h0.size) (hk : (255 : Int32) < ch) :
    MetFree l (⟨"java/lang/StringLatin1", "canEncode", "(C)Z"⟩ : MethodName) (head1 (Jvm.Cond.code (⟨"java/lang/StringLatin1", "canEncode", "(C)Z"⟩ : MethodName) jdk_43_method_3_code 1 (some .boolean) :: ws) ({ frames := 0, cells := 0, slots := 0, locals := 0 } : Room)) (fun a U => a = #[(.int ch)] ∧ Z.Warmed39 U.vm ∧ U.heap = h0) (fun _ _ _ _ _ => True) (fun _ U o U' => ∃ v L, o = .returned v ∧ Q31U Z ch h0 n0 v U'.heap L ∧ FrameEnd U o U' L ({ frames := 0, cells := 0, slots := 0, locals := 0 } : Room).cells ({ frames := 0, cells := 0, slots := 0, locals := 0 } : Room).slots) := by
  refine MetFree.of_bodySF (plainFor_of_name pn_31) hisR ?_
  intro p e s m args below meth c s₁ Bd hml0 hP hK
  obtain ⟨rfl, hZ, hh⟩ := hP
  have hx := Bd.exec
  have hby := Bd.bytes
  have hml : c.maxLocals = 1 := hml0
  have hown : s.vm.findClass "java/lang/StringLatin1" = some m.cls := findClass_of_methodNamed Bd.named
  have hnm := (name_of_methodNamed Bd.named Bd.method).1
  have X0 : Stand p l e ({ frames := 0, cells := 0, slots := 0, locals := 0 } : Room) s m #[(.int ch)] below meth c s₁ [] 0 0 := Stand.of_body Bd
  have e0 : s₁.heap = h0 := by rw [← hh, Bd.state]; rfl
  have N0 := Fr.nil n0
  have pre0 : ∀ t, Steps p.tables e below (s₁.setTop (mkF m 0 #[.val (.int ch)] [])) t → Steps p.tables e below (s₁.setTop (entryFrame m #[(.int ch)] 1)) t := fun t k => castTop (ef_31_x m ch) k
  have J1 : ∀ t, Steps p.tables e below (s₁.setTop (mkF m 12 #[.val (.int ch)] [(.int (0 : Int32))])) t → Steps p.tables e below (s₁.setTop (entryFrame m #[(.int ch)] 1)) t := fun t k => pre0 t (by
      show Steps p.tables e below (s₁.setTop (mkF m 0 #[.val (.int ch)] [])) _
      refine XS.iloadN X0.here hx rfl (hb hby d31_0) rfl ?_
      show Steps p.tables e below (s₁.setTop (mkF m 1 #[.val (.int ch)] [(.int ch)])) _
      refine XS.sipush X0.here hx rfl (hb hby d31_1) ?_
      show Steps p.tables e below (s₁.setTop (mkF m 4 #[.val (.int ch)] [(.int (255 : Int32)), (.int ch)])) _
      refine XS.icmpYes X0.here hx rfl (pc0 := 4) (pc' := 11) rfl (hb hby d31_4) rfl (tlt hk).2.2.1 (by decide) (by decide) ?_
      show Steps p.tables e below (s₁.setTop (mkF m 11 #[.val (.int ch)] [])) _
      refine XS.iconst X0.here hx rfl (hb hby d31_11) ?_
      exact k)
  obtain ⟨fs, hr, hrun, hended, hW, hsame⟩ := X0.leave (v := some (.int (0 : Int32))) (fun h => by rw [Bd.returns] at h; cases h)
  refine ⟨_, _, J1 _ ?_, hrun, hended, _, _, rfl, ?_, ⟨_, rfl⟩, hW, hsame.mono (by decide) (by decide)⟩
  · show Steps p.tables e below (s₁.setTop (mkF m 12 #[.val (.int ch)] [(.int (0 : Int32))])) _
    exact retN X0 hx (t := .boolean) Bd.returns (by simp) (hb hby d31_12) hr
  · show Q31U Z ch h0 n0 _ s₁.heap _
    rw [e0]
    exact ⟨rfl, N0, rfl⟩
def Q33U (Z : State) (a1 : Addr) (ba : Addr) (u1 : Value) (u2 : Value) (h0 : Heap) (n0 : Nat) (v : Option Value) (h : Heap) (L : List Loc) : Prop := v = none ∧ Fr n0 L ∧ Keep h0 h [a1] ∧ (Exa Z h a1 "java/lang/String") ∧ (Fld Z h a1 "java/lang/String" "value" "[B" (.ref ba)) ∧ (Fld Z h a1 "java/lang/String" "coder" "B" (.int (1 : Int32)))
set_option maxRecDepth 65536 in
set_option maxHeartbeats 40000000 in
theorem rm33U (l : Launch) (Z : State) (a0 : Array Value) (hw : ∀ d ∈ tables_1, d.before a0 Z = true) (ws : List Jvm.Cond) (a1 : Addr) (ba : Addr) (u1 : Value) (u2 : Value) (h0 : Heap) (n0 : Nat) (Z0 : n0 ≤ h0.size) (E_a1 : Exa Z h0 a1 "java/lang/String") (g_a1 : n0 ≤ a1) (F_value_a1 : Fld Z h0 a1 "java/lang/String" "value" "[B" u1) (F_coder_a1 : Fld Z h0 a1 "java/lang/String" "coder" "B" u2) :
    MetFree l (⟨"java/lang/String", "<init>", "([BB)V"⟩ : MethodName) (head1 (Jvm.Cond.code (⟨"java/lang/String", "<init>", "([BB)V"⟩ : MethodName) jdk_42_method_151_code 3 none :: ws) ({ frames := 1, cells := 0, slots := 0, locals := 12 } : Room)) (fun a U => a = #[(.ref a1), (.ref ba), (.int (1 : Int32))] ∧ Z.Warmed39 U.vm ∧ U.heap = h0) (fun _ _ _ _ _ => True) (fun _ U o U' => ∃ v L, o = .returned v ∧ Q33U Z a1 ba u1 u2 h0 n0 v U'.heap L ∧ FrameEnd U o U' L ({ frames := 1, cells := 0, slots := 0, locals := 12 } : Room).cells ({ frames := 1, cells := 0, slots := 0, locals := 12 } : Room).slots) := by
  refine MetFree.of_bodySF (plainFor_of_name pn_33) hisR ?_
  intro p e s m args below meth c s₁ Bd hml0 hP hK
  obtain ⟨rfl, hZ, hh⟩ := hP
  have hx := Bd.exec
  have hby := Bd.bytes
  have hml : c.maxLocals = 3 := hml0
  have hown : s.vm.findClass "java/lang/String" = some m.cls := findClass_of_methodNamed Bd.named
  have hnm := (name_of_methodNamed Bd.named Bd.method).1
  have X0 : Stand p l e ({ frames := 1, cells := 0, slots := 0, locals := 12 } : Room) s m #[(.ref a1), (.ref ba), (.int (1 : Int32))] below meth c s₁ [] 0 0 := Stand.of_body Bd
  have e0 : s₁.heap = h0 := by rw [← hh, Bd.state]; rfl
  have N0 := Fr.nil n0
  have pre0 : ∀ t, Steps p.tables e below (s₁.setTop (mkF m 0 #[.val (.ref a1), .val (.ref ba), .val (.int (1 : Int32))] [])) t → Steps p.tables e below (s₁.setTop (entryFrame m #[(.ref a1), (.ref ba), (.int (1 : Int32))] 3)) t := fun t k => castTop (ef_33_xxx m a1 ba (1 : Int32)) k
  have J1 : ∀ t, Steps p.tables e below (s₁.setTop (mkF m 1 #[.val (.ref a1), .val (.ref ba), .val (.int (1 : Int32))] [(.ref a1)])) t → Steps p.tables e below (s₁.setTop (entryFrame m #[(.ref a1), (.ref ba), (.int (1 : Int32))] 3)) t := fun t k => pre0 t (by
      show Steps p.tables e below (s₁.setTop (mkF m 0 #[.val (.ref a1), .val (.ref ba), .val (.int (1 : Int32))] [])) _
      refine XS.aloadN X0.here hx rfl (hb hby d33_0) rfl rfl ?_
      exact k)
  obtain ⟨T2, X2, e2, st2⟩ := initO X0 hx hZ hown (hw _ (List.mem_of_getElem? (i := 131) rfl)) (hw _ (List.mem_of_getElem? (i := 26) rfl)) (hw _ (List.mem_of_getElem? (i := 27) rfl)) e0 (g := (mkF m 1 #[.val (.ref a1), .val (.ref ba), .val (.int (1 : Int32))] [(.ref a1)])) rfl (by rw [hml]; rfl) rfl (hb hby d33_1) (by decide) (W := 0) (by show 2 * 0 + _ ≤ _; exact Nat.le_of_eq rfl) (by decide)
  have J3 : ∀ t, Steps p.tables e below (T2.setTop (mkF m 4 #[.val (.ref a1), .val (.ref ba), .val (.int (1 : Int32))] [])) t → Steps p.tables e below (s₁.setTop (entryFrame m #[(.ref a1), (.ref ba), (.int (1 : Int32))] 3)) t := fun t k => J1 t (st2 t k)
  have J4 : ∀ t, Steps p.tables e below (T2.setTop (mkF m 6 #[.val (.ref a1), .val (.ref ba), .val (.int (1 : Int32))] [(.ref ba), (.ref a1)])) t → Steps p.tables e below (s₁.setTop (entryFrame m #[(.ref a1), (.ref ba), (.int (1 : Int32))] 3)) t := fun t k => J3 t (by
      show Steps p.tables e below (T2.setTop (mkF m 4 #[.val (.ref a1), .val (.ref ba), .val (.int (1 : Int32))] [])) _
      refine XS.aloadN X2.here hx rfl (hb hby d33_4) rfl rfl ?_
      show Steps p.tables e below (T2.setTop (mkF m 5 #[.val (.ref a1), .val (.ref ba), .val (.int (1 : Int32))] [(.ref a1)])) _
      refine XS.aloadN X2.here hx rfl (hb hby d33_5) rfl rfl ?_
      exact k)
  obtain ⟨T5, h5, X5, e5, W5, st5⟩ := putF X2 hx hZ hown (host := "") (Or.inl (hw _ (List.mem_of_getElem? (i := 144) rfl))) Via.refl e2 F_value_a1 E_a1 (Or.inr ⟨(hw _ (List.mem_of_getElem? (i := 7) rfl)), rfl, hnm⟩) (hw _ (List.mem_of_getElem? (i := 5) rfl)) (ty := (.array .byte)) (by decide) rfl rfl (g := (mkF m 6 #[.val (.ref a1), .val (.ref ba), .val (.int (1 : Int32))] [(.ref ba), (.ref a1)])) rfl rfl (hb hby d33_6)
  have J6 : ∀ t, Steps p.tables e below (T5.setTop (mkF m 9 #[.val (.ref a1), .val (.ref ba), .val (.int (1 : Int32))] [])) t → Steps p.tables e below (s₁.setTop (entryFrame m #[(.ref a1), (.ref ba), (.int (1 : Int32))] 3)) t := fun t k => J4 t (st5 t k)
  have Z7 : n0 ≤ h5.size := Nat.le_trans Z0 (Keep.of_wr W5).1
  have KK8 : Keep h0 h5 [a1] := (Keep.refl h0 [a1]).wr W5 (Or.inl (List.mem_of_getElem? (i := 0) rfl))
  have N9 := Fr.snoc X5 N0 g_a1
  have Fw5 := F_value_a1.same W5
  have J10 : ∀ t, Steps p.tables e below (T5.setTop (mkF m 11 #[.val (.ref a1), .val (.ref ba), .val (.int (1 : Int32))] [(.int (1 : Int32)), (.ref a1)])) t → Steps p.tables e below (s₁.setTop (entryFrame m #[(.ref a1), (.ref ba), (.int (1 : Int32))] 3)) t := fun t k => J6 t (by
      show Steps p.tables e below (T5.setTop (mkF m 9 #[.val (.ref a1), .val (.ref ba), .val (.int (1 : Int32))] [])) _
      refine XS.aloadN X5.here hx rfl (hb hby d33_9) rfl rfl ?_
      show Steps p.tables e below (T5.setTop (mkF m 10 #[.val (.ref a1), .val (.ref ba), .val (.int (1 : Int32))] [(.ref a1)])) _
      refine XS.iloadN X5.here hx rfl (hb hby d33_10) rfl ?_
      exact k)
  have f11 := F_coder_a1.other W5 (Or.inr (slot_ne (Or.inr (hw _ (List.mem_of_getElem? (i := 8) rfl))) (Or.inr (hw _ (List.mem_of_getElem? (i := 7) rfl))) (by decide) (t := .byte) (t' := (.array .byte)) (by decide) (by decide)))
  have f12 := E_a1.wr W5
  obtain ⟨T13, h13, X13, e13, W13, st13⟩ := putFN X5 hx hZ hown (hw _ (List.mem_of_getElem? (i := 143) rfl)) Via.refl e5 f11 f12 (Or.inr ⟨(hw _ (List.mem_of_getElem? (i := 8) rfl)), rfl, hnm⟩) (hw _ (List.mem_of_getElem? (i := 5) rfl)) (ty := .byte) (v' := (.int (1 : Int32))) (by decide) rfl (by decide) (g := (mkF m 11 #[.val (.ref a1), .val (.ref ba), .val (.int (1 : Int32))] [(.int (1 : Int32)), (.ref a1)])) rfl rfl (hb hby d33_11)
  have J14 : ∀ t, Steps p.tables e below (T13.setTop (mkF m 14 #[.val (.ref a1), .val (.ref ba), .val (.int (1 : Int32))] [])) t → Steps p.tables e below (s₁.setTop (entryFrame m #[(.ref a1), (.ref ba), (.int (1 : Int32))] 3)) t := fun t k => J10 t (st13 t k)
  have Z15 : n0 ≤ h13.size := Nat.le_trans Z7 (Keep.of_wr W13).1
  have KK16 : Keep h0 h13 [a1] := KK8.wr W13 (Or.inl (List.mem_of_getElem? (i := 0) rfl))
  have N17 := Fr.snoc X13 N9 g_a1
  have Fw13 := f11.same W13
  obtain ⟨fs, hr, hrun, hended, hW, hsame⟩ := X13.leave (v := none) (fun _ => rfl)
  have f18 := f12.wr W13
  have f19 := Fw5.other W13 (Or.inr (slot_ne (Or.inr (hw _ (List.mem_of_getElem? (i := 7) rfl))) (Or.inr (hw _ (List.mem_of_getElem? (i := 8) rfl))) (by decide) (t := (.array .byte)) (t' := .byte) (by decide) (by decide)))
  refine ⟨_, _, J14 _ ?_, hrun, hended, _, _, rfl, ?_, ⟨_, rfl⟩, hW, hsame.mono (by decide) (by decide)⟩
  · show Steps p.tables e below (T13.setTop (mkF m 14 #[.val (.ref a1), .val (.ref ba), .val (.int (1 : Int32))] [])) _
    exact X13.returnOut hx Bd.returns (hb hby d33_14) hr
  · show Q33U Z a1 ba u1 u2 h0 n0 _ T13.heap _
    rw [e13]
    exact ⟨rfl, N17, KK16, f18, f19, Fw13⟩
theorem d30_26 : decode jdk_42_method_139_code 26 = .ok (.new 10, 3) := by decide +kernel
theorem d30_29 : decode jdk_42_method_139_code 29 = .ok (.dup, 1) := by decide +kernel
theorem d30_30 : decode jdk_42_method_139_code 30 = .ok (.iload_n 0, 1) := by decide +kernel
theorem d30_31 : decode jdk_42_method_139_code 31 = .ok (.invokestatic 1021, 3) := by decide +kernel
theorem d30_34 : decode jdk_42_method_139_code 34 = .ok (.iconst 1, 1) := by decide +kernel
theorem d30_35 : decode jdk_42_method_139_code 35 = .ok (.invokespecial 209, 3) := by decide +kernel
theorem d30_38 : decode jdk_42_method_139_code 38 = .ok (.areturn, 1) := by decide +kernel
def Q30U (Z : State) (ch : Int32) (cs : Int32) (h0 : Heap) (n0 : Nat) (v : Option Value) (h : Heap) (L : List Loc) : Prop := ∃ (st : Addr) (ba : Addr) (bcl : Cell), v = some (.ref st) ∧ Fr n0 L ∧ Keep h0 h [] ∧ (Exa Z h st "java/lang/String") ∧ (Fld Z h st "java/lang/String" "value" "[B" (.ref ba)) ∧ (Fld Z h st "java/lang/String" "coder" "B" (.int (1 : Int32))) ∧ (Arr Z h ba bcl .byte) ∧ (bcl.slots.size = 2) ∧ (bcl.slots[0]? = some (.int (own_u0 ch))) ∧ (bcl.slots[1]? = some (.int (own_u1 ch))) ∧ (h0.size ≤ st)
set_option maxRecDepth 65536 in
set_option maxHeartbeats 40000000 in
theorem rm30U (l : Launch) (Z : State) (a0 : Array Value) (hw : ∀ d ∈ tables_1, d.before a0 Z = true) (ws : List Jvm.Cond) (ch : Int32) (cs : Int32) (h0 : Heap) (n0 : Nat) (Z0 : n0 ≤ h0.size) (hk : (255 : Int32) < ch) (O : Old Z n0 h0) (Zs_COMPACT_STRINGS : Sta Z Z.heap "java/lang/String" "COMPACT_STRINGS" "Z" (.int cs)) (hcs : ¬ cs = (0 : Int32)) (Zs__assertionsDisabled : Sta Z Z.heap "java/lang/StringUTF16" "$assertionsDisabled" "Z" (.int (1 : Int32))) (Zs_HI_BYTE_SHIFT : Sta Z Z.heap "java/lang/StringUTF16" "HI_BYTE_SHIFT" "I" (.int (0 : Int32))) (Zs_LO_BYTE_SHIFT : Sta Z Z.heap "java/lang/StringUTF16" "LO_BYTE_SHIFT" "I" (.int (8 : Int32))) :
    MetFree l (⟨"java/lang/String", "valueOf", "(C)Ljava/lang/String;"⟩ : MethodName) (head1 (Jvm.Cond.code (⟨"java/lang/String", "valueOf", "(C)Ljava/lang/String;"⟩ : MethodName) jdk_42_method_139_code 1 (some (.object "java/lang/String")) :: ws) ({ frames := 2, cells := 2, slots := 6, locals := 29 } : Room)) (fun a U => a = #[(.int ch)] ∧ Z.Warmed39 U.vm ∧ U.heap = h0) (fun _ _ _ _ _ => True) (fun _ U o U' => ∃ v L, o = .returned v ∧ Q30U Z ch cs h0 n0 v U'.heap L ∧ FrameEnd U o U' L ({ frames := 2, cells := 2, slots := 6, locals := 29 } : Room).cells ({ frames := 2, cells := 2, slots := 6, locals := 29 } : Room).slots) := by
  refine MetFree.of_bodySF (plainFor_of_name pn_30) hisR ?_
  intro p e s m args below meth c s₁ Bd hml0 hP hK
  obtain ⟨rfl, hZ, hh⟩ := hP
  have hx := Bd.exec
  have hby := Bd.bytes
  have hml : c.maxLocals = 1 := hml0
  have hown : s.vm.findClass "java/lang/String" = some m.cls := findClass_of_methodNamed Bd.named
  have hnm := (name_of_methodNamed Bd.named Bd.method).1
  have X0 : Stand p l e ({ frames := 2, cells := 2, slots := 6, locals := 29 } : Room) s m #[(.int ch)] below meth c s₁ [] 0 0 := Stand.of_body Bd
  have e0 : s₁.heap = h0 := by rw [← hh, Bd.state]; rfl
  have N0 := Fr.nil n0
  have pre0 : ∀ t, Steps p.tables e below (s₁.setTop (mkF m 0 #[.val (.int ch)] [])) t → Steps p.tables e below (s₁.setTop (entryFrame m #[(.int ch)] 1)) t := fun t k => castTop (ef_30_x m ch) k
  obtain ⟨T1, X1, e1, st1⟩ := getS2 X0 hx hZ hown (host := "") (Or.inl (hw _ (List.mem_of_getElem? (i := 132) rfl))) Via.refl e0 (Zs_COMPACT_STRINGS.ext O.2) (g := (mkF m 0 #[.val (.int ch)] [])) rfl (hb hby d30_0)
  have J2 : ∀ t, Steps p.tables e below (T1.setTop (mkF m 3 #[.val (.int ch)] [(.int cs)])) t → Steps p.tables e below (s₁.setTop (entryFrame m #[(.int ch)] 1)) t := fun t k => pre0 t (st1 t k)
  have J3 : ∀ t, Steps p.tables e below (T1.setTop (mkF m 7 #[.val (.int ch)] [(.int ch)])) t → Steps p.tables e below (s₁.setTop (entryFrame m #[(.int ch)] 1)) t := fun t k => J2 t (by
      show Steps p.tables e below (T1.setTop (mkF m 3 #[.val (.int ch)] [(.int cs)])) _
      refine XS.ifNo X1.here hx rfl (hb hby d30_3) rfl ((if0 _ _).trans (feq hcs).1) ?_
      show Steps p.tables e below (T1.setTop (mkF m 6 #[.val (.int ch)] [])) _
      refine XS.iloadN X1.here hx rfl (hb hby d30_6) rfl ?_
      exact k)
  obtain ⟨_, _, ⟨T4, L4, k4, n4⟩, -, X4, ⟨Lc4, hQ4, l4, y4, z4⟩, st4⟩ := Jvm.LawKit.callS X1 hx (y := (⟨"java/lang/StringLatin1", "canEncode", "(C)Z"⟩ : MethodName)) hown (mvT hZ (hw _ (List.mem_of_getElem? (i := 196) rfl))) (mvT hZ (hw _ (List.mem_of_getElem? (i := 197) rfl))) (mvT hZ (hw _ (List.mem_of_getElem? (i := 198) rfl))) (mvT hZ (hw _ (List.mem_of_getElem? (i := 199) rfl))) (by decide) (backOf (W := 0) (rm31U l Z a0 hw [] ch h0 n0 Z0 (by assumption)) hZ (hw _ (List.mem_of_getElem? (i := 199) rfl)) (hw _ (List.mem_of_getElem? (i := 198) rfl)) (by decide) (by decide)) (g := (mkF m 7 #[.val (.int ch)] [(.int ch)])) rfl (by rw [hml]; rfl) (argsL := [(.int ch)]) (rest := []) (lenOf pd_21 rfl) rfl (by show 2 * 0 + _ ≤ _; exact Nat.le_of_eq rfl) (hb hby d30_7) (fun _ _ => ⟨rfl, e1, (by decide : 0 + 0 ≤ _), (by decide : 0 + 0 ≤ _)⟩)
  dsimp only [Pt.U, Pt.locs, Pt.cells, Pt.slots] at X4 l4 y4 z4 st4 hQ4
  subst y4 z4
  obtain ⟨rfl, Nq4, e4⟩ := hQ4
  have N5 : Fr n0 L4 := by rw [l4]; exact Fr.app N0 Nq4
  have J6 : ∀ t, Steps p.tables e below (T4.setTop (mkF m 10 #[.val (.int ch)] [(.int (0 : Int32))])) t → Steps p.tables e below (s₁.setTop (entryFrame m #[(.int ch)] 1)) t := fun t k => J3 t (st4 t k)
  have J7 : ∀ t, Steps p.tables e below (T4.setTop (mkF m 26 #[.val (.int ch)] [])) t → Steps p.tables e below (s₁.setTop (entryFrame m #[(.int ch)] 1)) t := fun t k => J6 t (by
      show Steps p.tables e below (T4.setTop (mkF m 10 #[.val (.int ch)] [(.int (0 : Int32))])) _
      refine XS.ifYes X4.here hx rfl (pc0 := 10) (pc' := 26) rfl (hb hby d30_10) rfl ((if0 _ _).trans (teq (by decide)).1) (by decide) (by decide) ?_
      exact k)
  obtain ⟨T8, h8, X8, e8, E8, A8, D8, -, st8⟩ := newO X4 hx hZ hown (hw _ (List.mem_of_getElem? (i := 200) rfl)) (hw _ (List.mem_of_getElem? (i := 5) rfl)) (hw _ (List.mem_of_getElem? (i := 4) rfl)) e4 (g := (mkF m 26 #[.val (.int ch)] [])) rfl (hb hby d30_26) (by decide) (by decide)
  obtain ⟨b8, g8⟩ : ∃ z, z = h0.size := ⟨_, rfl⟩
  rw [← g8] at A8 D8 st8
  have J9 : ∀ t, Steps p.tables e below (T8.setTop (mkF m 29 #[.val (.int ch)] [(.ref b8)])) t → Steps p.tables e below (s₁.setTop (entryFrame m #[(.int ch)] 1)) t := fun t k => J7 t (st8 t k)
  have ge10 : n0 ≤ b8 := Nat.le_trans Z0 (Nat.le_of_eq g8.symm)
  have sz11 : h0.size ≤ b8 := Nat.le_trans (Keep.refl h0 []).1 (Nat.le_of_eq g8.symm)
  have Z12 : n0 ≤ h8.size := Nat.le_trans Z0 E8.1
  have KK13 : Keep h0 h8 [] := (Keep.refl h0 []).ext E8
  have F8_value : Fld Z h8 b8 "java/lang/String" "value" "[B" .null := D8 (Or.inr (hw _ (List.mem_of_getElem? (i := 7) rfl))) (ty := (.array .byte)) (by decide)
  have F8_coder : Fld Z h8 b8 "java/lang/String" "coder" "B" (.int (0 : Int32)) := D8 (Or.inr (hw _ (List.mem_of_getElem? (i := 8) rfl))) (ty := .byte) (by decide)
  have J14 : ∀ t, Steps p.tables e below (T8.setTop (mkF m 31 #[.val (.int ch)] [(.int ch), (.ref b8), (.ref b8)])) t → Steps p.tables e below (s₁.setTop (entryFrame m #[(.int ch)] 1)) t := fun t k => J9 t (by
      show Steps p.tables e below (T8.setTop (mkF m 29 #[.val (.int ch)] [(.ref b8)])) _
      refine XS.dup X8.here hx rfl (hb hby d30_29) rfl rfl ?_
      show Steps p.tables e below (T8.setTop (mkF m 30 #[.val (.int ch)] [(.ref b8), (.ref b8)])) _
      refine XS.iloadN X8.here hx rfl (hb hby d30_30) rfl ?_
      exact k)
  have f15 := O.ext E8
  obtain ⟨_, _, ⟨T16, L16, k16, n16⟩, -, X16, ⟨Lc16, hQ16, l16, y16, z16⟩, st16⟩ := Jvm.LawKit.callS X8 hx (y := (⟨"java/lang/StringUTF16", "toBytes", "(C)[B"⟩ : MethodName)) hown (mvT hZ (hw _ (List.mem_of_getElem? (i := 234) rfl))) (mvT hZ (hw _ (List.mem_of_getElem? (i := 235) rfl))) (mvT hZ (hw _ (List.mem_of_getElem? (i := 135) rfl))) (mvT hZ (hw _ (List.mem_of_getElem? (i := 236) rfl))) (by decide) (backOf (W := 2) (rm41 l Z a0 hw [] ch h8 n0 Z12 f15 Zs__assertionsDisabled Zs_HI_BYTE_SHIFT Zs_LO_BYTE_SHIFT) hZ (hw _ (List.mem_of_getElem? (i := 236) rfl)) (hw _ (List.mem_of_getElem? (i := 135) rfl)) (by decide) (by decide)) (g := (mkF m 31 #[.val (.int ch)] [(.int ch), (.ref b8), (.ref b8)])) rfl (by rw [hml]; rfl) (argsL := [(.int ch)]) (rest := [(.ref b8), (.ref b8)]) (lenOf pd_22 rfl) rfl (by show 2 * 0 + _ ≤ _; exact Nat.le_of_eq rfl) (hb hby d30_31) (fun _ _ => ⟨rfl, e8, (by decide : 1 + 1 ≤ _), (by decide : 4 + 2 ≤ _)⟩)
  dsimp only [Pt.U, Pt.locs, Pt.cells, Pt.slots] at X16 l16 y16 z16 st16 hQ16
  subst y16 z16
  obtain ⟨ba_16, bcl_16, rfl, Nq16, K16, p16_1, p16_2, p16_3, p16_4, p16_5, p16_6⟩ := hQ16
  have N17 : Fr n0 L16 := by rw [l16]; exact Fr.app N5 Nq16
  have J18 : ∀ t, Steps p.tables e below (T16.setTop (mkF m 34 #[.val (.int ch)] [(.ref ba_16), (.ref b8), (.ref b8)])) t → Steps p.tables e below (s₁.setTop (entryFrame m #[(.int ch)] 1)) t := fun t k => J14 t (st16 t k)
  have Z19 : n0 ≤ T16.heap.size := Nat.le_trans Z12 K16.1
  have KK20 : Keep h0 T16.heap [] := KK13.trans K16 all0
  have J21 : ∀ t, Steps p.tables e below (T16.setTop (mkF m 35 #[.val (.int ch)] [(.int (1 : Int32)), (.ref ba_16), (.ref b8), (.ref b8)])) t → Steps p.tables e below (s₁.setTop (entryFrame m #[(.int ch)] 1)) t := fun t k => J18 t (by
      show Steps p.tables e below (T16.setTop (mkF m 34 #[.val (.int ch)] [(.ref ba_16), (.ref b8), (.ref b8)])) _
      refine XS.iconst X16.here hx rfl (hb hby d30_34) ?_
      exact k)
  have f22 := A8.keep K16
  have f23 := F8_value.keep K16 nin0
  have f24 := F8_coder.keep K16 nin0
  obtain ⟨_, _, ⟨T25, L25, k25, n25⟩, -, X25, ⟨Lc25, hQ25, l25, y25, z25⟩, st25⟩ := X16.specialBack hx (y := (⟨"java/lang/String", "<init>", "([BB)V"⟩ : MethodName)) rfl hown (mvT hZ (hw _ (List.mem_of_getElem? (i := 204) rfl))) (mvT hZ (hw _ (List.mem_of_getElem? (i := 205) rfl))) (mvT hZ (hw _ (List.mem_of_getElem? (i := 206) rfl))) (by decide) (backOf (W := 1) (rm33U l Z a0 hw [] b8 ba_16 .null (.int (0 : Int32)) T16.heap n0 Z19 f22 ge10 f23 f24) hZ (hw _ (List.mem_of_getElem? (i := 206) rfl)) (hw _ (List.mem_of_getElem? (i := 4) rfl)) (by decide) (by decide)) (g := (mkF m 35 #[.val (.int ch)] [(.int (1 : Int32)), (.ref ba_16), (.ref b8), (.ref b8)])) rfl (by rw [hml]; rfl) (Steps.refl _) (a := b8) (argsL := [(.ref ba_16), (.int (1 : Int32))]) (rest := [(.ref b8)]) (lenOf pd_23 rfl) rfl (by show 2 * 0 + _ ≤ _; exact Nat.le_of_eq rfl) (hb hby d30_35) (fun _ _ => ⟨rfl, rfl, (by decide : 2 + 0 ≤ _), (by decide : 6 + 0 ≤ _)⟩)
  dsimp only [Pt.U, Pt.locs, Pt.cells, Pt.slots] at X25 l25 y25 z25 st25 hQ25
  subst y25 z25
  obtain ⟨rfl, Nq25, K25, p25_1, p25_2, p25_3⟩ := hQ25
  have N26 : Fr n0 L25 := by rw [l25]; exact Fr.app N17 Nq25
  have J27 : ∀ t, Steps p.tables e below (T25.setTop (mkF m 38 #[.val (.int ch)] [(.ref b8)])) t → Steps p.tables e below (s₁.setTop (entryFrame m #[(.int ch)] 1)) t := fun t k => J21 t (st25.trans k)
  have Z28 : n0 ≤ T25.heap.size := Nat.le_trans Z19 K25.1
  have KK29 : Keep h0 T25.heap [] := KK20.trans K25 (allS (Or.inr sz11) all0)
  obtain ⟨fs, hr, hrun, hended, hW, hsame⟩ := X25.leave (v := some (.ref b8)) (fun h => by rw [Bd.returns] at h; cases h)
  have f30 : Arr Z T25.heap ba_16 bcl_16 .byte := ⟨K25.2.1 _ _ p16_1.1 (ninS (Ne.symm (Nat.ne_of_lt (Nat.lt_of_lt_of_le A8.lt p16_6))) nin0), p16_1.2⟩
  refine ⟨_, _, J27 _ ?_, hrun, hended, _, _, rfl, ?_, ⟨_, rfl⟩, hW, hsame.mono (by decide) (by decide)⟩
  · show Steps p.tables e below (T25.setTop (mkF m 38 #[.val (.int ch)] [(.ref b8)])) _
    jvm_step X25.here [X25.here.top, hx, (hb hby d30_38), X25.method', Bd.returns, Value.isRef, FieldType.isReference]
    first | (intro acts; rw [hr _ acts rfl rfl rfl]) | rw [hr _ _ rfl rfl rfl]
    exact Steps.refl _
  · show Q30U Z ch cs h0 n0 _ T25.heap _
    exact ⟨b8, ba_16, bcl_16, rfl, N26, KK29, p25_1, p25_2, p25_3, f30, p16_2, p16_3, p16_4, sz11⟩
def Q35U (Z : State) (b1 : Addr) (b2 : Addr) (c1 : Cell) (c2 : Cell) (y0 : Int32) (y1 : Int32) (h0 : Heap) (n0 : Nat) (v : Option Value) (h : Heap) (L : List Loc) : Prop := v = some (.int (1 : Int32)) ∧ Fr n0 L ∧ h = h0
set_option maxRecDepth 65536 in
set_option maxHeartbeats 40000000 in
theorem rm35U (l : Launch) (Z : State) (a0 : Array Value) (hw : ∀ d ∈ tables_1, d.before a0 Z = true) (ws : List Jvm.Cond) (b1 : Addr) (b2 : Addr) (c1 : Cell) (c2 : Cell) (y0 : Int32) (y1 : Int32) (h0 : Heap) (n0 : Nat) (Z0 : n0 ≤ h0.size) (Ar_b1 : Arr Z h0 b1 c1 .byte) (Ar_b2 : Arr Z h0 b2 c2 .byte) (z1 : c1.slots.size = 2) (z2 : c2.slots.size = 2) (x0c1 : c1.slots[0]? = some (.int y0)) (x0c2 : c2.slots[0]? = some (.int y0)) (x1c1 : c1.slots[1]? = some (.int y1)) (x1c2 : c2.slots[1]? = some (.int y1)) :
    MetFree l (⟨"java/lang/StringLatin1", "equals", "([B[B)Z"⟩ : MethodName) (head1 (Jvm.Cond.code (⟨"java/lang/StringLatin1", "equals", "([B[B)Z"⟩ : MethodName) jdk_43_method_13_code 3 (some .boolean) :: ws) ({ frames := 0, cells := 0, slots := 0, locals := 0 } : Room)) (fun a U => a = #[(.ref b1), (.ref b2)] ∧ Z.Warmed39 U.vm ∧ U.heap = h0) (fun _ _ _ _ _ => True) (fun _ U o U' => ∃ v L, o = .returned v ∧ Q35U Z b1 b2 c1 c2 y0 y1 h0 n0 v U'.heap L ∧ FrameEnd U o U' L ({ frames := 0, cells := 0, slots := 0, locals := 0 } : Room).cells ({ frames := 0, cells := 0, slots := 0, locals := 0 } : Room).slots) := by
  refine MetFree.of_bodySF (plainFor_of_name pn_35) hisR ?_
  intro p e s m args below meth c s₁ Bd hml0 hP hK
  obtain ⟨rfl, hZ, hh⟩ := hP
  have hx := Bd.exec
  have hby := Bd.bytes
  have hml : c.maxLocals = 3 := hml0
  have hown : s.vm.findClass "java/lang/StringLatin1" = some m.cls := findClass_of_methodNamed Bd.named
  have hnm := (name_of_methodNamed Bd.named Bd.method).1
  have X0 : Stand p l e ({ frames := 0, cells := 0, slots := 0, locals := 0 } : Room) s m #[(.ref b1), (.ref b2)] below meth c s₁ [] 0 0 := Stand.of_body Bd
  have e0 : s₁.heap = h0 := by rw [← hh, Bd.state]; rfl
  have N0 := Fr.nil n0
  have pre0 : ∀ t, Steps p.tables e below (s₁.setTop (mkF m 0 #[.val (.ref b1), .val (.ref b2), .unset] [])) t → Steps p.tables e below (s₁.setTop (entryFrame m #[(.ref b1), (.ref b2)] 3)) t := fun t k => castTop (ef_35_xx m b1 b2) k
  have J1 : ∀ t, Steps p.tables e below (s₁.setTop (mkF m 9 #[.val (.ref b1), .val (.ref b2), .val (.int ((0 : Int32) + (1 : Int32)))] [])) t → Steps p.tables e below (s₁.setTop (entryFrame m #[(.ref b1), (.ref b2)] 3)) t := fun t k => pre0 t (by
      show Steps p.tables e below (s₁.setTop (mkF m 0 #[.val (.ref b1), .val (.ref b2), .unset] [])) _
      refine XS.aloadN X0.here hx rfl (hb hby d35_0) rfl rfl ?_
      show Steps p.tables e below (s₁.setTop (mkF m 1 #[.val (.ref b1), .val (.ref b2), .unset] [(.ref b1)])) _
      refine X0.arraylength hx (cell := c1) (by rw [e0]; exact Ar_b1.1) (State.isArrayOf_alike hZ.alike Ar_b1.2.1) (g := (mkF m 1 #[.val (.ref b1), .val (.ref b2), .unset] [(.ref b1)])) rfl (rest := []) rfl (hb hby d35_1) _ ?_
      rw [(show c1.slots.size.toInt32 = (2 : Int32) from by rw [z1]; rfl)]
      show Steps p.tables e below (s₁.setTop (mkF m 2 #[.val (.ref b1), .val (.ref b2), .unset] [(.int (2 : Int32))])) _
      refine XS.aloadN X0.here hx rfl (hb hby d35_2) rfl rfl ?_
      show Steps p.tables e below (s₁.setTop (mkF m 3 #[.val (.ref b1), .val (.ref b2), .unset] [(.ref b2), (.int (2 : Int32))])) _
      refine X0.arraylength hx (cell := c2) (by rw [e0]; exact Ar_b2.1) (State.isArrayOf_alike hZ.alike Ar_b2.2.1) (g := (mkF m 3 #[.val (.ref b1), .val (.ref b2), .unset] [(.ref b2), (.int (2 : Int32))])) rfl (rest := [(.int (2 : Int32))]) rfl (hb hby d35_3) _ ?_
      rw [(show c2.slots.size.toInt32 = (2 : Int32) from by rw [z2]; rfl)]
      show Steps p.tables e below (s₁.setTop (mkF m 4 #[.val (.ref b1), .val (.ref b2), .unset] [(.int (2 : Int32)), (.int (2 : Int32))])) _
      refine XS.icmpNo X0.here hx rfl (hb hby d35_4) rfl (teq rfl).2 ?_
      show Steps p.tables e below (s₁.setTop (mkF m 7 #[.val (.ref b1), .val (.ref b2), .unset] [])) _
      refine XS.iconst X0.here hx rfl (hb hby d35_7) ?_
      show Steps p.tables e below (s₁.setTop (mkF m 8 #[.val (.ref b1), .val (.ref b2), .unset] [(.int (0 : Int32))])) _
      refine XS.istoreN X0.here hx rfl (hb hby d35_8) rfl (l' := #[.val (.ref b1), .val (.ref b2), .val (.int (0 : Int32))]) rfl ?_
      show Steps p.tables e below (s₁.setTop (mkF m 9 #[.val (.ref b1), .val (.ref b2), .val (.int (0 : Int32))] [])) _
      refine XS.iloadN X0.here hx rfl (hb hby d35_9) rfl ?_
      show Steps p.tables e below (s₁.setTop (mkF m 10 #[.val (.ref b1), .val (.ref b2), .val (.int (0 : Int32))] [(.int (0 : Int32))])) _
      refine XS.aloadN X0.here hx rfl (hb hby d35_10) rfl rfl ?_
      show Steps p.tables e below (s₁.setTop (mkF m 11 #[.val (.ref b1), .val (.ref b2), .val (.int (0 : Int32))] [(.ref b1), (.int (0 : Int32))])) _
      refine X0.arraylength hx (cell := c1) (by rw [e0]; exact Ar_b1.1) (State.isArrayOf_alike hZ.alike Ar_b1.2.1) (g := (mkF m 11 #[.val (.ref b1), .val (.ref b2), .val (.int (0 : Int32))] [(.ref b1), (.int (0 : Int32))])) rfl (rest := [(.int (0 : Int32))]) rfl (hb hby d35_11) _ ?_
      rw [(show c1.slots.size.toInt32 = (2 : Int32) from by rw [z1]; rfl)]
      show Steps p.tables e below (s₁.setTop (mkF m 12 #[.val (.ref b1), .val (.ref b2), .val (.int (0 : Int32))] [(.int (2 : Int32)), (.int (0 : Int32))])) _
      refine XS.icmpNo X0.here hx rfl (hb hby d35_12) rfl (tlt (by decide)).2.1 ?_
      show Steps p.tables e below (s₁.setTop (mkF m 15 #[.val (.ref b1), .val (.ref b2), .val (.int (0 : Int32))] [])) _
      refine XS.aloadN X0.here hx rfl (hb hby d35_15) rfl rfl ?_
      show Steps p.tables e below (s₁.setTop (mkF m 16 #[.val (.ref b1), .val (.ref b2), .val (.int (0 : Int32))] [(.ref b1)])) _
      refine XS.iloadN X0.here hx rfl (hb hby d35_16) rfl ?_
      show Steps p.tables e below (s₁.setTop (mkF m 17 #[.val (.ref b1), .val (.ref b2), .val (.int (0 : Int32))] [(.int (0 : Int32)), (.ref b1)])) _
      refine X0.baloadBytes hx (j := (0 : Int32)) (v := (.int y0)) (by rw [e0]; exact Ar_b1.1) (State.isArrayOf_alike hZ.alike Ar_b1.2.1) Ar_b1.2.2 (own_in z1 (by decide) (by decide)) (own_at (by decide) x0c1) (g := (mkF m 17 #[.val (.ref b1), .val (.ref b2), .val (.int (0 : Int32))] [(.int (0 : Int32)), (.ref b1)])) rfl rfl (hb hby d35_17) _ ?_
      show Steps p.tables e below (s₁.setTop (mkF m 18 #[.val (.ref b1), .val (.ref b2), .val (.int (0 : Int32))] [(.int y0)])) _
      refine XS.aloadN X0.here hx rfl (hb hby d35_18) rfl rfl ?_
      show Steps p.tables e below (s₁.setTop (mkF m 19 #[.val (.ref b1), .val (.ref b2), .val (.int (0 : Int32))] [(.ref b2), (.int y0)])) _
      refine XS.iloadN X0.here hx rfl (hb hby d35_19) rfl ?_
      show Steps p.tables e below (s₁.setTop (mkF m 20 #[.val (.ref b1), .val (.ref b2), .val (.int (0 : Int32))] [(.int (0 : Int32)), (.ref b2), (.int y0)])) _
      refine X0.baloadBytes hx (j := (0 : Int32)) (v := (.int y0)) (by rw [e0]; exact Ar_b2.1) (State.isArrayOf_alike hZ.alike Ar_b2.2.1) Ar_b2.2.2 (own_in z2 (by decide) (by decide)) (own_at (by decide) x0c2) (g := (mkF m 20 #[.val (.ref b1), .val (.ref b2), .val (.int (0 : Int32))] [(.int (0 : Int32)), (.ref b2), (.int y0)])) rfl rfl (hb hby d35_20) _ ?_
      show Steps p.tables e below (s₁.setTop (mkF m 21 #[.val (.ref b1), .val (.ref b2), .val (.int (0 : Int32))] [(.int y0), (.int y0)])) _
      refine XS.icmpYes X0.here hx rfl (pc0 := 21) (pc' := 26) rfl (hb hby d35_21) rfl (teq rfl).1 (by decide) (by decide) ?_
      show Steps p.tables e below (s₁.setTop (mkF m 26 #[.val (.ref b1), .val (.ref b2), .val (.int (0 : Int32))] [])) _
      refine XS.iinc X0.here hx rfl (hb hby d35_26) rfl (l' := #[.val (.ref b1), .val (.ref b2), .val (.int ((0 : Int32) + (1 : Int32)))]) rfl ?_
      show Steps p.tables e below (s₁.setTop (mkF m 29 #[.val (.ref b1), .val (.ref b2), .val (.int ((0 : Int32) + (1 : Int32)))] [])) _
      refine XS.goto X0.here hx rfl (pc0 := 29) (pc' := 9) rfl (hb hby d35_29) (by decide) (by decide) ?_
      exact k)
  have J2 : ∀ t, Steps p.tables e below (s₁.setTop (mkF m 9 #[.val (.ref b1), .val (.ref b2), .val (.int (1 : Int32))] [])) t → Steps p.tables e below (s₁.setTop (entryFrame m #[(.ref b1), (.ref b2)] 3)) t := fun t k => J1 t (by rw [(by decide : ((0 : Int32) + (1 : Int32)) = (1 : Int32))]; exact k)
  have J3 : ∀ t, Steps p.tables e below (s₁.setTop (mkF m 33 #[.val (.ref b1), .val (.ref b2), .val (.int ((1 : Int32) + (1 : Int32)))] [(.int (1 : Int32))])) t → Steps p.tables e below (s₁.setTop (entryFrame m #[(.ref b1), (.ref b2)] 3)) t := fun t k => J2 t (by
      show Steps p.tables e below (s₁.setTop (mkF m 9 #[.val (.ref b1), .val (.ref b2), .val (.int (1 : Int32))] [])) _
      refine XS.iloadN X0.here hx rfl (hb hby d35_9) rfl ?_
      show Steps p.tables e below (s₁.setTop (mkF m 10 #[.val (.ref b1), .val (.ref b2), .val (.int (1 : Int32))] [(.int (1 : Int32))])) _
      refine XS.aloadN X0.here hx rfl (hb hby d35_10) rfl rfl ?_
      show Steps p.tables e below (s₁.setTop (mkF m 11 #[.val (.ref b1), .val (.ref b2), .val (.int (1 : Int32))] [(.ref b1), (.int (1 : Int32))])) _
      refine X0.arraylength hx (cell := c1) (by rw [e0]; exact Ar_b1.1) (State.isArrayOf_alike hZ.alike Ar_b1.2.1) (g := (mkF m 11 #[.val (.ref b1), .val (.ref b2), .val (.int (1 : Int32))] [(.ref b1), (.int (1 : Int32))])) rfl (rest := [(.int (1 : Int32))]) rfl (hb hby d35_11) _ ?_
      rw [(show c1.slots.size.toInt32 = (2 : Int32) from by rw [z1]; rfl)]
      show Steps p.tables e below (s₁.setTop (mkF m 12 #[.val (.ref b1), .val (.ref b2), .val (.int (1 : Int32))] [(.int (2 : Int32)), (.int (1 : Int32))])) _
      refine XS.icmpNo X0.here hx rfl (hb hby d35_12) rfl (tlt (by decide)).2.1 ?_
      show Steps p.tables e below (s₁.setTop (mkF m 15 #[.val (.ref b1), .val (.ref b2), .val (.int (1 : Int32))] [])) _
      refine XS.aloadN X0.here hx rfl (hb hby d35_15) rfl rfl ?_
      show Steps p.tables e below (s₁.setTop (mkF m 16 #[.val (.ref b1), .val (.ref b2), .val (.int (1 : Int32))] [(.ref b1)])) _
      refine XS.iloadN X0.here hx rfl (hb hby d35_16) rfl ?_
      show Steps p.tables e below (s₁.setTop (mkF m 17 #[.val (.ref b1), .val (.ref b2), .val (.int (1 : Int32))] [(.int (1 : Int32)), (.ref b1)])) _
      refine X0.baloadBytes hx (j := (1 : Int32)) (v := (.int y1)) (by rw [e0]; exact Ar_b1.1) (State.isArrayOf_alike hZ.alike Ar_b1.2.1) Ar_b1.2.2 (own_in z1 (by decide) (by decide)) (own_at (by decide) x1c1) (g := (mkF m 17 #[.val (.ref b1), .val (.ref b2), .val (.int (1 : Int32))] [(.int (1 : Int32)), (.ref b1)])) rfl rfl (hb hby d35_17) _ ?_
      show Steps p.tables e below (s₁.setTop (mkF m 18 #[.val (.ref b1), .val (.ref b2), .val (.int (1 : Int32))] [(.int y1)])) _
      refine XS.aloadN X0.here hx rfl (hb hby d35_18) rfl rfl ?_
      show Steps p.tables e below (s₁.setTop (mkF m 19 #[.val (.ref b1), .val (.ref b2), .val (.int (1 : Int32))] [(.ref b2), (.int y1)])) _
      refine XS.iloadN X0.here hx rfl (hb hby d35_19) rfl ?_
      show Steps p.tables e below (s₁.setTop (mkF m 20 #[.val (.ref b1), .val (.ref b2), .val (.int (1 : Int32))] [(.int (1 : Int32)), (.ref b2), (.int y1)])) _
      refine X0.baloadBytes hx (j := (1 : Int32)) (v := (.int y1)) (by rw [e0]; exact Ar_b2.1) (State.isArrayOf_alike hZ.alike Ar_b2.2.1) Ar_b2.2.2 (own_in z2 (by decide) (by decide)) (own_at (by decide) x1c2) (g := (mkF m 20 #[.val (.ref b1), .val (.ref b2), .val (.int (1 : Int32))] [(.int (1 : Int32)), (.ref b2), (.int y1)])) rfl rfl (hb hby d35_20) _ ?_
      show Steps p.tables e below (s₁.setTop (mkF m 21 #[.val (.ref b1), .val (.ref b2), .val (.int (1 : Int32))] [(.int y1), (.int y1)])) _
      refine XS.icmpYes X0.here hx rfl (pc0 := 21) (pc' := 26) rfl (hb hby d35_21) rfl (teq rfl).1 (by decide) (by decide) ?_
      show Steps p.tables e below (s₁.setTop (mkF m 26 #[.val (.ref b1), .val (.ref b2), .val (.int (1 : Int32))] [])) _
      refine XS.iinc X0.here hx rfl (hb hby d35_26) rfl (l' := #[.val (.ref b1), .val (.ref b2), .val (.int ((1 : Int32) + (1 : Int32)))]) rfl ?_
      show Steps p.tables e below (s₁.setTop (mkF m 29 #[.val (.ref b1), .val (.ref b2), .val (.int ((1 : Int32) + (1 : Int32)))] [])) _
      refine XS.goto X0.here hx rfl (pc0 := 29) (pc' := 9) rfl (hb hby d35_29) (by decide) (by decide) ?_
      show Steps p.tables e below (s₁.setTop (mkF m 9 #[.val (.ref b1), .val (.ref b2), .val (.int ((1 : Int32) + (1 : Int32)))] [])) _
      refine XS.iloadN X0.here hx rfl (hb hby d35_9) rfl ?_
      show Steps p.tables e below (s₁.setTop (mkF m 10 #[.val (.ref b1), .val (.ref b2), .val (.int ((1 : Int32) + (1 : Int32)))] [(.int ((1 : Int32) + (1 : Int32)))])) _
      refine XS.aloadN X0.here hx rfl (hb hby d35_10) rfl rfl ?_
      show Steps p.tables e below (s₁.setTop (mkF m 11 #[.val (.ref b1), .val (.ref b2), .val (.int ((1 : Int32) + (1 : Int32)))] [(.ref b1), (.int ((1 : Int32) + (1 : Int32)))])) _
      refine X0.arraylength hx (cell := c1) (by rw [e0]; exact Ar_b1.1) (State.isArrayOf_alike hZ.alike Ar_b1.2.1) (g := (mkF m 11 #[.val (.ref b1), .val (.ref b2), .val (.int ((1 : Int32) + (1 : Int32)))] [(.ref b1), (.int ((1 : Int32) + (1 : Int32)))])) rfl (rest := [(.int ((1 : Int32) + (1 : Int32)))]) rfl (hb hby d35_11) _ ?_
      rw [(show c1.slots.size.toInt32 = (2 : Int32) from by rw [z1]; rfl)]
      show Steps p.tables e below (s₁.setTop (mkF m 12 #[.val (.ref b1), .val (.ref b2), .val (.int ((1 : Int32) + (1 : Int32)))] [(.int (2 : Int32)), (.int ((1 : Int32) + (1 : Int32)))])) _
      refine XS.icmpYes X0.here hx rfl (pc0 := 12) (pc' := 32) rfl (hb hby d35_12) rfl (flt (by decide)).2.1 (by decide) (by decide) ?_
      show Steps p.tables e below (s₁.setTop (mkF m 32 #[.val (.ref b1), .val (.ref b2), .val (.int ((1 : Int32) + (1 : Int32)))] [])) _
      refine XS.iconst X0.here hx rfl (hb hby d35_32) ?_
      exact k)
  obtain ⟨fs, hr, hrun, hended, hW, hsame⟩ := X0.leave (v := some (.int (1 : Int32))) (fun h => by rw [Bd.returns] at h; cases h)
  refine ⟨_, _, J3 _ ?_, hrun, hended, _, _, rfl, ?_, ⟨_, rfl⟩, hW, hsame.mono (by decide) (by decide)⟩
  · show Steps p.tables e below (s₁.setTop (mkF m 33 #[.val (.ref b1), .val (.ref b2), .val (.int ((1 : Int32) + (1 : Int32)))] [(.int (1 : Int32))])) _
    exact retN X0 hx (t := .boolean) Bd.returns (by simp) (hb hby d35_33) hr
  · show Q35U Z b1 b2 c1 c2 y0 y1 h0 n0 _ s₁.heap _
    rw [e0]
    exact ⟨rfl, N0, rfl⟩
def Q34U (Z : State) (a1 : Addr) (a2 : Addr) (b1 : Addr) (b2 : Addr) (c1 : Cell) (c2 : Cell) (y0 : Int32) (y1 : Int32) (cs : Int32) (h0 : Heap) (n0 : Nat) (v : Option Value) (h : Heap) (L : List Loc) : Prop := v = some (.int (1 : Int32)) ∧ Fr n0 L ∧ h = h0
set_option maxRecDepth 65536 in
set_option maxHeartbeats 40000000 in
theorem rm34U (l : Launch) (Z : State) (a0 : Array Value) (hw : ∀ d ∈ tables_1, d.before a0 Z = true) (ws : List Jvm.Cond) (a1 : Addr) (a2 : Addr) (b1 : Addr) (b2 : Addr) (c1 : Cell) (c2 : Cell) (y0 : Int32) (y1 : Int32) (cs : Int32) (h0 : Heap) (n0 : Nat) (Z0 : n0 ≤ h0.size) (E_a1 : Exa Z h0 a1 "java/lang/String") (E_a2 : Exa Z h0 a2 "java/lang/String") (ne_a1_a2 : a1 ≠ a2) (F_value_a1 : Fld Z h0 a1 "java/lang/String" "value" "[B" (.ref b1)) (F_value_a2 : Fld Z h0 a2 "java/lang/String" "value" "[B" (.ref b2)) (F_coder_a1 : Fld Z h0 a1 "java/lang/String" "coder" "B" (.int (1 : Int32))) (F_coder_a2 : Fld Z h0 a2 "java/lang/String" "coder" "B" (.int (1 : Int32))) (Ar_b1 : Arr Z h0 b1 c1 .byte) (Ar_b2 : Arr Z h0 b2 c2 .byte) (z1 : c1.slots.size = 2) (z2 : c2.slots.size = 2) (x0c1 : c1.slots[0]? = some (.int y0)) (x0c2 : c2.slots[0]? = some (.int y0)) (x1c1 : c1.slots[1]? = some (.int y1)) (x1c2 : c2.slots[1]? = some (.int y1)) (O : Old Z n0 h0) (Zs_COMPACT_STRINGS : Sta Z Z.heap "java/lang/String" "COMPACT_STRINGS" "Z" (.int cs)) (hcs : ¬ cs = (0 : Int32)) :
    MetFree l (⟨"java/lang/String", "equals", "(Ljava/lang/Object;)Z"⟩ : MethodName) (head1 (Jvm.Cond.code (⟨"java/lang/String", "equals", "(Ljava/lang/Object;)Z"⟩ : MethodName) jdk_42_method_66_code 3 (some .boolean) :: ws) ({ frames := 1, cells := 0, slots := 0, locals := 14 } : Room)) (fun a U => a = #[(.ref a1), (.ref a2)] ∧ Z.Warmed39 U.vm ∧ U.heap = h0) (fun _ _ _ _ _ => True) (fun _ U o U' => ∃ v L, o = .returned v ∧ Q34U Z a1 a2 b1 b2 c1 c2 y0 y1 cs h0 n0 v U'.heap L ∧ FrameEnd U o U' L ({ frames := 1, cells := 0, slots := 0, locals := 14 } : Room).cells ({ frames := 1, cells := 0, slots := 0, locals := 14 } : Room).slots) := by
  refine MetFree.of_bodySF (plainFor_of_name pn_34) hisR ?_
  intro p e s m args below meth c s₁ Bd hml0 hP hK
  obtain ⟨rfl, hZ, hh⟩ := hP
  have hx := Bd.exec
  have hby := Bd.bytes
  have hml : c.maxLocals = 3 := hml0
  have hown : s.vm.findClass "java/lang/String" = some m.cls := findClass_of_methodNamed Bd.named
  have hnm := (name_of_methodNamed Bd.named Bd.method).1
  have X0 : Stand p l e ({ frames := 1, cells := 0, slots := 0, locals := 14 } : Room) s m #[(.ref a1), (.ref a2)] below meth c s₁ [] 0 0 := Stand.of_body Bd
  have e0 : s₁.heap = h0 := by rw [← hh, Bd.state]; rfl
  have N0 := Fr.nil n0
  have pre0 : ∀ t, Steps p.tables e below (s₁.setTop (mkF m 0 #[.val (.ref a1), .val (.ref a2), .unset] [])) t → Steps p.tables e below (s₁.setTop (entryFrame m #[(.ref a1), (.ref a2)] 3)) t := fun t k => castTop (ef_34_xx m a1 a2) k
  have J1 : ∀ t, Steps p.tables e below (s₁.setTop (mkF m 8 #[.val (.ref a1), .val (.ref a2), .unset] [(.ref a2)])) t → Steps p.tables e below (s₁.setTop (entryFrame m #[(.ref a1), (.ref a2)] 3)) t := fun t k => pre0 t (by
      show Steps p.tables e below (s₁.setTop (mkF m 0 #[.val (.ref a1), .val (.ref a2), .unset] [])) _
      refine XS.aloadN X0.here hx rfl (hb hby d34_0) rfl rfl ?_
      show Steps p.tables e below (s₁.setTop (mkF m 1 #[.val (.ref a1), .val (.ref a2), .unset] [(.ref a1)])) _
      refine XS.aloadN X0.here hx rfl (hb hby d34_1) rfl rfl ?_
      show Steps p.tables e below (s₁.setTop (mkF m 2 #[.val (.ref a1), .val (.ref a2), .unset] [(.ref a2), (.ref a1)])) _
      refine Jvm.RoadKit.acmp (g := (mkF m 2 #[.val (.ref a1), .val (.ref a2), .unset] [(.ref a2), (.ref a1)])) X0 hx rfl rfl rfl (pc0 := 2) (pc' := 7) (same := false) rfl (hb hby d34_2) rfl (decide_eq_false fun q => ne_a1_a2 (Value.ref.inj q)) (by decide) (by decide) ?_
      show Steps p.tables e below (s₁.setTop (mkF m 7 #[.val (.ref a1), .val (.ref a2), .unset] [])) _
      refine XS.aloadN X0.here hx rfl (hb hby d34_7) rfl rfl ?_
      exact k)
  obtain ⟨T2, X2, e2, st2⟩ := instY X0 hx hZ hown (hw _ (List.mem_of_getElem? (i := 200) rfl)) e0 (Ins.self E_a2) (g := (mkF m 8 #[.val (.ref a1), .val (.ref a2), .unset] [(.ref a2)])) rfl rfl (hb hby d34_8)
  have J3 : ∀ t, Steps p.tables e below (T2.setTop (mkF m 11 #[.val (.ref a1), .val (.ref a2), .unset] [(.int (1 : Int32))])) t → Steps p.tables e below (s₁.setTop (entryFrame m #[(.ref a1), (.ref a2)] 3)) t := fun t k => J1 t (st2 t k)
  have J4 : ∀ t, Steps p.tables e below (T2.setTop (mkF m 15 #[.val (.ref a1), .val (.ref a2), .unset] [(.ref a2)])) t → Steps p.tables e below (s₁.setTop (entryFrame m #[(.ref a1), (.ref a2)] 3)) t := fun t k => J3 t (by
      show Steps p.tables e below (T2.setTop (mkF m 11 #[.val (.ref a1), .val (.ref a2), .unset] [(.int (1 : Int32))])) _
      refine XS.ifNo X2.here hx rfl (hb hby d34_11) rfl ((if0 _ _).trans (feq (by decide)).1) ?_
      show Steps p.tables e below (T2.setTop (mkF m 14 #[.val (.ref a1), .val (.ref a2), .unset] [])) _
      refine XS.aloadN X2.here hx rfl (hb hby d34_14) rfl rfl ?_
      exact k)
  obtain ⟨T5, X5, e5, st5⟩ := castY X2 hx hZ hown (hw _ (List.mem_of_getElem? (i := 200) rfl)) e2 (Ins.self E_a2) (g := (mkF m 15 #[.val (.ref a1), .val (.ref a2), .unset] [(.ref a2)])) rfl rfl (hb hby d34_15)
  have J6 : ∀ t, Steps p.tables e below (T5.setTop (mkF m 18 #[.val (.ref a1), .val (.ref a2), .unset] [(.ref a2)])) t → Steps p.tables e below (s₁.setTop (entryFrame m #[(.ref a1), (.ref a2)] 3)) t := fun t k => J4 t (st5 t k)
  have J7 : ∀ t, Steps p.tables e below (T5.setTop (mkF m 19 #[.val (.ref a1), .val (.ref a2), .val (.ref a2)] [])) t → Steps p.tables e below (s₁.setTop (entryFrame m #[(.ref a1), (.ref a2)] 3)) t := fun t k => J6 t (by
      show Steps p.tables e below (T5.setTop (mkF m 18 #[.val (.ref a1), .val (.ref a2), .unset] [(.ref a2)])) _
      refine XS.astoreN X5.here hx rfl (hb hby d34_18) rfl rfl (l' := #[.val (.ref a1), .val (.ref a2), .val (.ref a2)]) rfl ?_
      exact k)
  obtain ⟨T8, X8, e8, st8⟩ := getS2 X5 hx hZ hown (host := "") (Or.inl (hw _ (List.mem_of_getElem? (i := 132) rfl))) Via.refl e5 (Zs_COMPACT_STRINGS.ext O.2) (g := (mkF m 19 #[.val (.ref a1), .val (.ref a2), .val (.ref a2)] [])) rfl (hb hby d34_19)
  have J9 : ∀ t, Steps p.tables e below (T8.setTop (mkF m 22 #[.val (.ref a1), .val (.ref a2), .val (.ref a2)] [(.int cs)])) t → Steps p.tables e below (s₁.setTop (entryFrame m #[(.ref a1), (.ref a2)] 3)) t := fun t k => J7 t (st8 t k)
  have J10 : ∀ t, Steps p.tables e below (T8.setTop (mkF m 26 #[.val (.ref a1), .val (.ref a2), .val (.ref a2)] [(.ref a1)])) t → Steps p.tables e below (s₁.setTop (entryFrame m #[(.ref a1), (.ref a2)] 3)) t := fun t k => J9 t (by
      show Steps p.tables e below (T8.setTop (mkF m 22 #[.val (.ref a1), .val (.ref a2), .val (.ref a2)] [(.int cs)])) _
      refine XS.ifNo X8.here hx rfl (hb hby d34_22) rfl ((if0 _ _).trans (feq hcs).1) ?_
      show Steps p.tables e below (T8.setTop (mkF m 25 #[.val (.ref a1), .val (.ref a2), .val (.ref a2)] [])) _
      refine XS.aloadN X8.here hx rfl (hb hby d34_25) rfl rfl ?_
      exact k)
  obtain ⟨T11, X11, e11, st11⟩ := getF X8 hx hZ hown (host := "") (Or.inl (hw _ (List.mem_of_getElem? (i := 143) rfl))) Via.refl e8 F_coder_a1 (g := (mkF m 26 #[.val (.ref a1), .val (.ref a2), .val (.ref a2)] [(.ref a1)])) rfl rfl (hb hby d34_26)
  have J12 : ∀ t, Steps p.tables e below (T11.setTop (mkF m 29 #[.val (.ref a1), .val (.ref a2), .val (.ref a2)] [(.int (1 : Int32))])) t → Steps p.tables e below (s₁.setTop (entryFrame m #[(.ref a1), (.ref a2)] 3)) t := fun t k => J10 t (st11 t k)
  have J13 : ∀ t, Steps p.tables e below (T11.setTop (mkF m 30 #[.val (.ref a1), .val (.ref a2), .val (.ref a2)] [(.ref a2), (.int (1 : Int32))])) t → Steps p.tables e below (s₁.setTop (entryFrame m #[(.ref a1), (.ref a2)] 3)) t := fun t k => J12 t (by
      show Steps p.tables e below (T11.setTop (mkF m 29 #[.val (.ref a1), .val (.ref a2), .val (.ref a2)] [(.int (1 : Int32))])) _
      refine XS.aloadN X11.here hx rfl (hb hby d34_29) rfl rfl ?_
      exact k)
  obtain ⟨T14, X14, e14, st14⟩ := getF X11 hx hZ hown (host := "") (Or.inl (hw _ (List.mem_of_getElem? (i := 143) rfl))) Via.refl e11 F_coder_a2 (g := (mkF m 30 #[.val (.ref a1), .val (.ref a2), .val (.ref a2)] [(.ref a2), (.int (1 : Int32))])) rfl rfl (hb hby d34_30)
  have J15 : ∀ t, Steps p.tables e below (T14.setTop (mkF m 33 #[.val (.ref a1), .val (.ref a2), .val (.ref a2)] [(.int (1 : Int32)), (.int (1 : Int32))])) t → Steps p.tables e below (s₁.setTop (entryFrame m #[(.ref a1), (.ref a2)] 3)) t := fun t k => J13 t (st14 t k)
  have J16 : ∀ t, Steps p.tables e below (T14.setTop (mkF m 37 #[.val (.ref a1), .val (.ref a2), .val (.ref a2)] [(.ref a1)])) t → Steps p.tables e below (s₁.setTop (entryFrame m #[(.ref a1), (.ref a2)] 3)) t := fun t k => J15 t (by
      show Steps p.tables e below (T14.setTop (mkF m 33 #[.val (.ref a1), .val (.ref a2), .val (.ref a2)] [(.int (1 : Int32)), (.int (1 : Int32))])) _
      refine XS.icmpNo X14.here hx rfl (hb hby d34_33) rfl (teq rfl).2 ?_
      show Steps p.tables e below (T14.setTop (mkF m 36 #[.val (.ref a1), .val (.ref a2), .val (.ref a2)] [])) _
      refine XS.aloadN X14.here hx rfl (hb hby d34_36) rfl rfl ?_
      exact k)
  obtain ⟨T17, X17, e17, st17⟩ := getF X14 hx hZ hown (host := "") (Or.inl (hw _ (List.mem_of_getElem? (i := 144) rfl))) Via.refl e14 F_value_a1 (g := (mkF m 37 #[.val (.ref a1), .val (.ref a2), .val (.ref a2)] [(.ref a1)])) rfl rfl (hb hby d34_37)
  have J18 : ∀ t, Steps p.tables e below (T17.setTop (mkF m 40 #[.val (.ref a1), .val (.ref a2), .val (.ref a2)] [(.ref b1)])) t → Steps p.tables e below (s₁.setTop (entryFrame m #[(.ref a1), (.ref a2)] 3)) t := fun t k => J16 t (st17 t k)
  have J19 : ∀ t, Steps p.tables e below (T17.setTop (mkF m 41 #[.val (.ref a1), .val (.ref a2), .val (.ref a2)] [(.ref a2), (.ref b1)])) t → Steps p.tables e below (s₁.setTop (entryFrame m #[(.ref a1), (.ref a2)] 3)) t := fun t k => J18 t (by
      show Steps p.tables e below (T17.setTop (mkF m 40 #[.val (.ref a1), .val (.ref a2), .val (.ref a2)] [(.ref b1)])) _
      refine XS.aloadN X17.here hx rfl (hb hby d34_40) rfl rfl ?_
      exact k)
  obtain ⟨T20, X20, e20, st20⟩ := getF X17 hx hZ hown (host := "") (Or.inl (hw _ (List.mem_of_getElem? (i := 144) rfl))) Via.refl e17 F_value_a2 (g := (mkF m 41 #[.val (.ref a1), .val (.ref a2), .val (.ref a2)] [(.ref a2), (.ref b1)])) rfl rfl (hb hby d34_41)
  have J21 : ∀ t, Steps p.tables e below (T20.setTop (mkF m 44 #[.val (.ref a1), .val (.ref a2), .val (.ref a2)] [(.ref b2), (.ref b1)])) t → Steps p.tables e below (s₁.setTop (entryFrame m #[(.ref a1), (.ref a2)] 3)) t := fun t k => J19 t (st20 t k)
  obtain ⟨_, _, ⟨T22, L22, k22, n22⟩, -, X22, ⟨Lc22, hQ22, l22, y22, z22⟩, st22⟩ := Jvm.LawKit.callS X20 hx (y := (⟨"java/lang/StringLatin1", "equals", "([B[B)Z"⟩ : MethodName)) hown (mvT hZ (hw _ (List.mem_of_getElem? (i := 212) rfl))) (mvT hZ (hw _ (List.mem_of_getElem? (i := 213) rfl))) (mvT hZ (hw _ (List.mem_of_getElem? (i := 198) rfl))) (mvT hZ (hw _ (List.mem_of_getElem? (i := 214) rfl))) (by decide) (backOf (W := 0) (rm35U l Z a0 hw [] b1 b2 c1 c2 y0 y1 h0 n0 Z0 Ar_b1 Ar_b2 (by assumption) (by assumption) (by assumption) (by assumption) (by assumption) (by assumption)) hZ (hw _ (List.mem_of_getElem? (i := 214) rfl)) (hw _ (List.mem_of_getElem? (i := 198) rfl)) (by decide) (by decide)) (g := (mkF m 44 #[.val (.ref a1), .val (.ref a2), .val (.ref a2)] [(.ref b2), (.ref b1)])) rfl (by rw [hml]; rfl) (argsL := [(.ref b1), (.ref b2)]) (rest := []) (lenOf pd_24 rfl) rfl (by show 2 * 0 + _ ≤ _; exact Nat.le_of_eq rfl) (hb hby d34_44) (fun _ _ => ⟨rfl, e20, (by decide : 0 + 0 ≤ _), (by decide : 0 + 0 ≤ _)⟩)
  dsimp only [Pt.U, Pt.locs, Pt.cells, Pt.slots] at X22 l22 y22 z22 st22 hQ22
  subst y22 z22
  obtain ⟨rfl, Nq22, e22⟩ := hQ22
  have N23 : Fr n0 L22 := by rw [l22]; exact Fr.app N0 Nq22
  have J24 : ∀ t, Steps p.tables e below (T22.setTop (mkF m 47 #[.val (.ref a1), .val (.ref a2), .val (.ref a2)] [(.int (1 : Int32))])) t → Steps p.tables e below (s₁.setTop (entryFrame m #[(.ref a1), (.ref a2)] 3)) t := fun t k => J21 t (st22 t k)
  have J25 : ∀ t, Steps p.tables e below (T22.setTop (mkF m 55 #[.val (.ref a1), .val (.ref a2), .val (.ref a2)] [(.int (1 : Int32))])) t → Steps p.tables e below (s₁.setTop (entryFrame m #[(.ref a1), (.ref a2)] 3)) t := fun t k => J24 t (by
      show Steps p.tables e below (T22.setTop (mkF m 47 #[.val (.ref a1), .val (.ref a2), .val (.ref a2)] [(.int (1 : Int32))])) _
      refine XS.ifNo X22.here hx rfl (hb hby d34_47) rfl ((if0 _ _).trans (feq (by decide)).1) ?_
      show Steps p.tables e below (T22.setTop (mkF m 50 #[.val (.ref a1), .val (.ref a2), .val (.ref a2)] [])) _
      refine XS.iconst X22.here hx rfl (hb hby d34_50) ?_
      show Steps p.tables e below (T22.setTop (mkF m 51 #[.val (.ref a1), .val (.ref a2), .val (.ref a2)] [(.int (1 : Int32))])) _
      refine XS.goto X22.here hx rfl (pc0 := 51) (pc' := 55) rfl (hb hby d34_51) (by decide) (by decide) ?_
      exact k)
  obtain ⟨fs, hr, hrun, hended, hW, hsame⟩ := X22.leave (v := some (.int (1 : Int32))) (fun h => by rw [Bd.returns] at h; cases h)
  refine ⟨_, _, J25 _ ?_, hrun, hended, _, _, rfl, ?_, ⟨_, rfl⟩, hW, hsame.mono (by decide) (by decide)⟩
  · show Steps p.tables e below (T22.setTop (mkF m 55 #[.val (.ref a1), .val (.ref a2), .val (.ref a2)] [(.int (1 : Int32))])) _
    exact retN X22 hx (t := .boolean) Bd.returns (by simp) (hb hby d34_55) hr
  · show Q34U Z a1 a2 b1 b2 c1 c2 y0 y1 cs h0 n0 _ T22.heap _
    rw [e22]
    exact ⟨rfl, N23, rfl⟩
theorem pd_26 : parseMethodDescriptor "(Ljava/lang/String;)V" = some ⟨[(.object "java/lang/String")], none⟩ := by decide +kernel
theorem pd_27 : parseMethodDescriptor "()I" = some ⟨[], some .int⟩ := by decide +kernel
theorem pd_28 : parseMethodDescriptor "()Ljava/util/List;" = some ⟨[], some (.object "java/util/List")⟩ := by decide +kernel
theorem pd_29 : parseMethodDescriptor "(C)Ljava/lang/String;" = some ⟨[.char], some (.object "java/lang/String")⟩ := by decide +kernel
theorem pn_0 : plainName "com/example/capwright/capwright/csv/CsvRowClearPinLaw" = true := by first | (simp [plainName, overriddenIn]; done) | decide +kernel
theorem ef_0_xxxxx (m : MethodId) (x0 : Int32) (x1 : Int32) (x2 : Int32) (x3 : Int32) (x4 : Int32) : entryFrame m #[(.int x0), (.int x1), (.int x2), (.int x3), (.int x4)] maxLocals = mkF m 0 #[.val (.int x0), .val (.int x1), .val (.int x2), .val (.int x3), .val (.int x4), .unset, .unset, .unset, .unset, .unset] [] := by first | (simp [entryFrame, mkF, argsToLocals, Value.category, maxLocals]; done) | rfl
def Q0 (Z : State) (p1 : Int32) (p2 : Int32) (p3 : Int32) (p4 : Int32) (p5 : Int32) (h0 : Heap) (n0 : Nat) (v : Option Value) (h : Heap) (L : List Loc) : Prop := v = some (.int (1 : Int32)) ∧ Fr n0 L
set_option maxRecDepth 65536 in
set_option maxHeartbeats 40000000 in
theorem rm0 (l : Launch) (Z : State) (a0 : Array Value) (hw : ∀ d ∈ tables_1, d.before a0 Z = true) (ws : List Jvm.Cond) (p1 : Int32) (p2 : Int32) (p3 : Int32) (p4 : Int32) (p5 : Int32) (h0 : Heap) (n0 : Nat) (Z0 : n0 ≤ h0.size) (O : Old Z n0 h0) (B : own_St Z) :
    MetFree l x (head1 (Jvm.Cond.code x code maxLocals ret :: ws) room_1) (fun a U => a = #[(.int p1), (.int p2), (.int p3), (.int p4), (.int p5)] ∧ Z.Warmed39 U.vm ∧ U.heap = h0) (fun _ _ _ _ _ => True) (fun _ U o U' => ∃ v L, o = .returned v ∧ Q0 Z p1 p2 p3 p4 p5 h0 n0 v U'.heap L ∧ ReturnedEndW U o U' L room_1.cells room_1.slots) := by
  refine MetFree.of_bodySF (plainFor_of_name pn_0) hisR ?_
  intro p e s m args below meth c s₁ Bd hml0 hP hK
  obtain ⟨rfl, hZ, hh⟩ := hP
  have hx := Bd.exec
  have hby := Bd.bytes
  have hml : c.maxLocals = 10 := hml0
  have hown : s.vm.findClass "com/example/capwright/capwright/csv/CsvRowClearPinLaw" = some m.cls := findClass_of_methodNamed Bd.named
  have hnm := (name_of_methodNamed Bd.named Bd.method).1
  have own_wS : ∀ a ∈ Bundle.stringAtoms, a.before a0 Z = true := own_words hw
  have hSi : s.Since s.vm h0.size := (State.WarmedH.refl s).since _
  have kz : h0.size ≤ h0.size := Nat.le_refl _
  have hZ : Z.Warmed39 (s.setVm s.vm).vm := hZ
  have hown : (s.setVm s.vm).vm.findClass "com/example/capwright/capwright/csv/CsvRowClearPinLaw" = some m.cls := hown
  have X0 : Stand p l e room_1 (s.setVm s.vm) m #[(.int p1), (.int p2), (.int p3), (.int p4), (.int p5)] below meth c s₁ [] 0 0 := Stand.of_body Bd
  have e0 : s₁.heap = h0 := by rw [← hh, Bd.state]; rfl
  have N0 := Fr.nil n0
  have pre0 : ∀ t, Steps p.tables e below (s₁.setTop (mkF m 0 #[.val (.int p1), .val (.int p2), .val (.int p3), .val (.int p4), .val (.int p5), .unset, .unset, .unset, .unset, .unset] [])) t → Steps p.tables e below (s₁.setTop (entryFrame m #[(.int p1), (.int p2), (.int p3), (.int p4), (.int p5)] maxLocals)) t := fun t k => castTop (ef_0_xxxxx m p1 p2 p3 p4 p5) k
  obtain ⟨em, fm, cs, Zm, Zc, hcs, Zf, hfm, Za, Zh, Zl⟩ := B
  obtain ⟨ch, hch0⟩ : ∃ z : Int32, z = p4.toUInt32.toUInt16.toUInt32.toInt32 := ⟨_, rfl⟩
  have hch : own_ch ch := ⟨p4, hch0⟩
  obtain ⟨T1, h1, X1, e1, E1, A1, D1, -, st1⟩ := newO X0 hx hZ hown (hw _ (List.mem_of_getElem? (i := 0) rfl)) (hw _ (List.mem_of_getElem? (i := 1) rfl)) (hw _ (List.mem_of_getElem? (i := 2) rfl)) e0 (g := (mkF m 0 #[.val (.int p1), .val (.int p2), .val (.int p3), .val (.int p4), .val (.int p5), .unset, .unset, .unset, .unset, .unset] [])) rfl (hb hby at_0) (by decide) (by decide)
  obtain ⟨b1, g1⟩ : ∃ z, z = h0.size := ⟨_, rfl⟩
  rw [← g1] at A1 D1 st1
  have J2 : ∀ t, Steps p.tables e below (T1.setTop (mkF m 3 #[.val (.int p1), .val (.int p2), .val (.int p3), .val (.int p4), .val (.int p5), .unset, .unset, .unset, .unset, .unset] [(.ref b1)])) t → Steps p.tables e below (s₁.setTop (entryFrame m #[(.int p1), (.int p2), (.int p3), (.int p4), (.int p5)] maxLocals)) t := fun t k => pre0 t (st1 t k)
  have ge3 : n0 ≤ b1 := Nat.le_trans Z0 (Nat.le_of_eq g1.symm)
  have Z4 : n0 ≤ h1.size := Nat.le_trans Z0 E1.1
  have kz := Nat.le_trans kz E1.1
  have F1_fieldText : Fld Z h1 b1 "com/example/capwright/capwright/csv/CsvRow" "fieldText" "Lcom/example/capwright/capwright/csv/CsvRow$FieldText;" .null := D1 (Or.inr (hw _ (List.mem_of_getElem? (i := 38) rfl))) (ty := (.object "com/example/capwright/capwright/csv/CsvRow$FieldText")) (by decide)
  have F1_file : Fld Z h1 b1 "com/example/capwright/capwright/csv/CsvRow" "file" "Ljava/lang/String;" .null := D1 (Or.inr (hw _ (List.mem_of_getElem? (i := 40) rfl))) (ty := (.object "java/lang/String")) (by decide)
  have F1_line : Fld Z h1 b1 "com/example/capwright/capwright/csv/CsvRow" "line" "I" (.int (0 : Int32)) := D1 (Or.inl (hw _ (List.mem_of_getElem? (i := 42) rfl))) (ty := .int) (by decide)
  have F1_columns : Fld Z h1 b1 "com/example/capwright/capwright/csv/CsvRow" "columns" "Ljava/util/Map;" .null := D1 (Or.inl (hw _ (List.mem_of_getElem? (i := 44) rfl))) (ty := (.object "java/util/Map")) (by decide)
  have F1_chars : Fld Z h1 b1 "com/example/capwright/capwright/csv/CsvRow" "chars" "[C" .null := D1 (Or.inl (hw _ (List.mem_of_getElem? (i := 46) rfl))) (ty := (.array .char)) (by decide)
  have F1_ends : Fld Z h1 b1 "com/example/capwright/capwright/csv/CsvRow" "ends" "[I" .null := D1 (Or.inl (hw _ (List.mem_of_getElem? (i := 48) rfl))) (ty := (.array .int)) (by decide)
  have F1_size : Fld Z h1 b1 "com/example/capwright/capwright/csv/CsvRow" "size" "I" (.int (0 : Int32)) := D1 (Or.inl (hw _ (List.mem_of_getElem? (i := 50) rfl))) (ty := .int) (by decide)
  have F1_length : Fld Z h1 b1 "com/example/capwright/capwright/csv/CsvRow" "length" "I" (.int (0 : Int32)) := D1 (Or.inl (hw _ (List.mem_of_getElem? (i := 52) rfl))) (ty := .int) (by decide)
  have J5 : ∀ t, Steps p.tables e below (T1.setTop (mkF m 4 #[.val (.int p1), .val (.int p2), .val (.int p3), .val (.int p4), .val (.int p5), .unset, .unset, .unset, .unset, .unset] [(.ref b1), (.ref b1)])) t → Steps p.tables e below (s₁.setTop (entryFrame m #[(.int p1), (.int p2), (.int p3), (.int p4), (.int p5)] maxLocals)) t := fun t k => J2 t (by
      show Steps p.tables e below (T1.setTop (mkF m 3 #[.val (.int p1), .val (.int p2), .val (.int p3), .val (.int p4), .val (.int p5), .unset, .unset, .unset, .unset, .unset] [(.ref b1)])) _
      refine XS.dup X1.here hx rfl (hb hby at_3) rfl rfl ?_
      exact k)
  obtain ⟨b6, T6, h6, k6, X6, e6, E6, hSi, kz, hZ, hown, st6⟩ := ldcS X1 hx hZ hown (hw _ (List.mem_of_getElem? (i := 3) rfl)) own_wS e1 hSi kz (g := (mkF m 4 #[.val (.int p1), .val (.int p2), .val (.int p3), .val (.int p4), .val (.int p5), .unset, .unset, .unset, .unset, .unset] [(.ref b1), (.ref b1)])) rfl (hb hby at_4) (n := 32) (by decide) (by decide) (by decide) (by decide)
  have J7 : ∀ t, Steps p.tables e below (T6.setTop (mkF m 6 #[.val (.int p1), .val (.int p2), .val (.int p3), .val (.int p4), .val (.int p5), .unset, .unset, .unset, .unset, .unset] [(.ref b6), (.ref b1), (.ref b1)])) t → Steps p.tables e below (s₁.setTop (entryFrame m #[(.int p1), (.int p2), (.int p3), (.int p4), (.int p5)] maxLocals)) t := fun t k => J5 t (st6 t k)
  have Z8 : n0 ≤ h6.size := Nat.le_trans Z4 E6.1
  have f9 := A1.ext E6
  have f10 := O.ext E1
  have f11 := f10.ext E6
  have f12 := F1_fieldText.ext E6
  have f13 := F1_file.ext E6
  have f14 := F1_line.ext E6
  have f15 := F1_columns.ext E6
  have f16 := F1_chars.ext E6
  have f17 := F1_ends.ext E6
  have f18 := F1_size.ext E6
  have f19 := F1_length.ext E6
  obtain ⟨_, _, ⟨T20, L20, k20, n20⟩, -, X20, ⟨Lc20, hQ20, l20, y20, z20⟩, st20⟩ := X6.specialBack hx (y := (⟨"com/example/capwright/capwright/csv/CsvRow", "<init>", "(Ljava/lang/String;)V"⟩ : MethodName)) rfl hown (mvT hZ (hw _ (List.mem_of_getElem? (i := 11) rfl))) (mvT hZ (hw _ (List.mem_of_getElem? (i := 12) rfl))) (mvT hZ (hw _ (List.mem_of_getElem? (i := 13) rfl))) (by decide) (backOf (W := 1) (rm1 l Z a0 hw [] b1 b6 em .null .null (.int (0 : Int32)) .null .null .null (.int (0 : Int32)) (.int (0 : Int32)) h6 n0 Z8 f9 ge3 f11 Zm f12 f13 f14 f15 f16 f17 f18 f19) hZ (hw _ (List.mem_of_getElem? (i := 13) rfl)) (hw _ (List.mem_of_getElem? (i := 2) rfl)) (by decide) (by decide)) (g := (mkF m 6 #[.val (.int p1), .val (.int p2), .val (.int p3), .val (.int p4), .val (.int p5), .unset, .unset, .unset, .unset, .unset] [(.ref b6), (.ref b1), (.ref b1)])) rfl (by rw [hml]; rfl) (Steps.refl _) (a := b1) (argsL := [(.ref b6)]) (rest := [(.ref b1)]) (lenOf pd_26 rfl) rfl (by show 2 * 0 + _ ≤ _; exact Nat.le_of_eq rfl) (hb hby at_6) (fun _ _ => ⟨rfl, e6, (by decide : 3 + 3 ≤ _), (by decide : 44 + 275 ≤ _)⟩)
  dsimp only [Pt.U, Pt.locs, Pt.cells, Pt.slots] at X20 l20 y20 z20 st20 hQ20
  subst y20 z20
  obtain ⟨ca_20, ea_20, kc_20, vd_20, ecl_20, rfl, Nq20, K20, p20_1, p20_2, p20_3, p20_4, p20_5, p20_6, p20_7, p20_8, p20_9, p20_10, p20_11, p20_12, p20_13, p20_14, p20_15⟩ := hQ20
  have N21 : Fr n0 L20 := by rw [l20]; exact Fr.app N0 Nq20
  have J22 : ∀ t, Steps p.tables e below (T20.setTop (mkF m 9 #[.val (.int p1), .val (.int p2), .val (.int p3), .val (.int p4), .val (.int p5), .unset, .unset, .unset, .unset, .unset] [(.ref b1)])) t → Steps p.tables e below (s₁.setTop (entryFrame m #[(.int p1), (.int p2), (.int p3), (.int p4), (.int p5)] maxLocals)) t := fun t k => J7 t (st20.trans k)
  have Z23 : n0 ≤ T20.heap.size := Nat.le_trans Z8 K20.1
  have kz := Nat.le_trans kz K20.1
  have J24 : ∀ t, Steps p.tables e below (T20.setTop (mkF m 12 #[.val (.int p1), .val (.int p2), .val (.int p3), .val (.int p4), .val (.int p5), .val (.ref b1), .unset, .unset, .unset, .unset] [(.int (3 : Int32))])) t → Steps p.tables e below (s₁.setTop (entryFrame m #[(.int p1), (.int p2), (.int p3), (.int p4), (.int p5)] maxLocals)) t := fun t k => J22 t (by
      show Steps p.tables e below (T20.setTop (mkF m 9 #[.val (.int p1), .val (.int p2), .val (.int p3), .val (.int p4), .val (.int p5), .unset, .unset, .unset, .unset, .unset] [(.ref b1)])) _
      refine XS.astore X20.here hx rfl (hb hby at_9) rfl rfl (l' := #[.val (.int p1), .val (.int p2), .val (.int p3), .val (.int p4), .val (.int p5), .val (.ref b1), .unset, .unset, .unset, .unset]) rfl ?_
      show Steps p.tables e below (T20.setTop (mkF m 11 #[.val (.int p1), .val (.int p2), .val (.int p3), .val (.int p4), .val (.int p5), .val (.ref b1), .unset, .unset, .unset, .unset] [])) _
      refine XS.iconst X20.here hx rfl (hb hby at_11) ?_
      exact k)
  obtain ⟨T25, h25, k25, X25, e25, E25, A25, st25⟩ := newP X20 hx hZ (hw _ (List.mem_of_getElem? (i := 20) rfl)) rfl (g := (mkF m 12 #[.val (.int p1), .val (.int p2), .val (.int p3), .val (.int p4), .val (.int p5), .val (.ref b1), .unset, .unset, .unset, .unset] [(.int (3 : Int32))])) rfl (hb hby at_12) rfl (by decide) (cap := 3) (by decide) (by decide) (by decide) (by decide)
  obtain ⟨b25, g25⟩ : ∃ z, z = T20.heap.size := ⟨_, rfl⟩
  rw [← g25] at A25 st25
  obtain ⟨cl25, hcl25⟩ : ∃ z, z = newA k25 .char (3 : Int32) := ⟨_, rfl⟩
  have Aw25 : Arr Z h25 b25 cl25 .char := by rw [hcl25]; exact A25
  have J26 : ∀ t, Steps p.tables e below (T25.setTop (mkF m 14 #[.val (.int p1), .val (.int p2), .val (.int p3), .val (.int p4), .val (.int p5), .val (.ref b1), .unset, .unset, .unset, .unset] [(.ref b25)])) t → Steps p.tables e below (s₁.setTop (entryFrame m #[(.int p1), (.int p2), (.int p3), (.int p4), (.int p5)] maxLocals)) t := fun t k => J24 t (st25 t k)
  have ne27 : b1 ≠ b25 := Nat.ne_of_lt (Nat.lt_of_lt_of_le p20_1.lt (Nat.le_of_eq g25.symm))
  have ne28 : ca_20 ≠ b25 := Nat.ne_of_lt (Nat.lt_of_lt_of_le p20_7.lt (Nat.le_of_eq g25.symm))
  have ne29 : ea_20 ≠ b25 := Nat.ne_of_lt (Nat.lt_of_lt_of_le p20_9.lt (Nat.le_of_eq g25.symm))
  have ge30 : n0 ≤ b25 := Nat.le_trans Z23 (Nat.le_of_eq g25.symm)
  have Z31 : n0 ≤ h25.size := Nat.le_trans Z23 E25.1
  have kz := Nat.le_trans kz E25.1
  have hS25 : cl25.slots.size = (3 : Int32).toNatClampNeg := by rw [hcl25, sz_new]
  have hG25 := own_G_new hcl25
  have J32 : ∀ t, Steps p.tables e below (T25.setTop (mkF m 18 #[.val (.int p1), .val (.int p2), .val (.int p3), .val (.int p4), .val (.int p5), .val (.ref b1), .unset, .unset, .unset, .unset] [(.int (p2.toUInt32.toUInt16.toUInt32.toInt32)), (.int (0 : Int32)), (.ref b25), (.ref b25)])) t → Steps p.tables e below (s₁.setTop (entryFrame m #[(.int p1), (.int p2), (.int p3), (.int p4), (.int p5)] maxLocals)) t := fun t k => J26 t (by
      show Steps p.tables e below (T25.setTop (mkF m 14 #[.val (.int p1), .val (.int p2), .val (.int p3), .val (.int p4), .val (.int p5), .val (.ref b1), .unset, .unset, .unset, .unset] [(.ref b25)])) _
      refine XS.dup X25.here hx rfl (hb hby at_14) rfl rfl ?_
      show Steps p.tables e below (T25.setTop (mkF m 15 #[.val (.int p1), .val (.int p2), .val (.int p3), .val (.int p4), .val (.int p5), .val (.ref b1), .unset, .unset, .unset, .unset] [(.ref b25), (.ref b25)])) _
      refine XS.iconst X25.here hx rfl (hb hby at_15) ?_
      show Steps p.tables e below (T25.setTop (mkF m 16 #[.val (.int p1), .val (.int p2), .val (.int p3), .val (.int p4), .val (.int p5), .val (.ref b1), .unset, .unset, .unset, .unset] [(.int (0 : Int32)), (.ref b25), (.ref b25)])) _
      refine XS.iloadN X25.here hx rfl (hb hby at_16) rfl ?_
      show Steps p.tables e below (T25.setTop (mkF m 17 #[.val (.int p1), .val (.int p2), .val (.int p3), .val (.int p4), .val (.int p5), .val (.ref b1), .unset, .unset, .unset, .unset] [(.int p2), (.int (0 : Int32)), (.ref b25), (.ref b25)])) _
      refine XS.i2c X25.here hx rfl (hb hby at_17) rfl ?_
      exact k)
  obtain ⟨T33, h33, X33, e33, W33, st33⟩ := stC X25 hx hZ e25 Aw25 (j := (0 : Int32)) (own_in hS25 (by decide) (by decide)) (g := (mkF m 18 #[.val (.int p1), .val (.int p2), .val (.int p3), .val (.int p4), .val (.int p5), .val (.ref b1), .unset, .unset, .unset, .unset] [(.int (p2.toUInt32.toUInt16.toUInt32.toInt32)), (.int (0 : Int32)), (.ref b25), (.ref b25)])) rfl rfl (hb hby at_18)
  have J34 : ∀ t, Steps p.tables e below (T33.setTop (mkF m 19 #[.val (.int p1), .val (.int p2), .val (.int p3), .val (.int p4), .val (.int p5), .val (.ref b1), .unset, .unset, .unset, .unset] [(.ref b25)])) t → Steps p.tables e below (s₁.setTop (entryFrame m #[(.int p1), (.int p2), (.int p3), (.int p4), (.int p5)] maxLocals)) t := fun t k => J32 t (st33 t k)
  have Z35 : n0 ≤ h33.size := Nat.le_trans Z31 (Keep.of_wr W33).1
  have kz := Nat.le_trans kz (Keep.of_wr W33).1
  have N36 := Fr.snoc X33 N21 ge30
  obtain ⟨cl33, hcl33⟩ : ∃ z, z = cl25.setSlot ((0 : Int32)).toNatClampNeg (.int (nar .char (p2.toUInt32.toUInt16.toUInt32.toInt32))) := ⟨_, rfl⟩
  have Aw33 : Arr Z h33 b25 cl33 .char := by rw [hcl33]; exact Aw25.same W33
  have hS33 := own_ssz hcl33 hS25
  have hG33 := own_G_set hG25 hcl33 (fits_nar_char _)
  have J37 : ∀ t, Steps p.tables e below (T33.setTop (mkF m 23 #[.val (.int p1), .val (.int p2), .val (.int p3), .val (.int p4), .val (.int p5), .val (.ref b1), .unset, .unset, .unset, .unset] [(.int (p3.toUInt32.toUInt16.toUInt32.toInt32)), (.int (1 : Int32)), (.ref b25), (.ref b25)])) t → Steps p.tables e below (s₁.setTop (entryFrame m #[(.int p1), (.int p2), (.int p3), (.int p4), (.int p5)] maxLocals)) t := fun t k => J34 t (by
      show Steps p.tables e below (T33.setTop (mkF m 19 #[.val (.int p1), .val (.int p2), .val (.int p3), .val (.int p4), .val (.int p5), .val (.ref b1), .unset, .unset, .unset, .unset] [(.ref b25)])) _
      refine XS.dup X33.here hx rfl (hb hby at_19) rfl rfl ?_
      show Steps p.tables e below (T33.setTop (mkF m 20 #[.val (.int p1), .val (.int p2), .val (.int p3), .val (.int p4), .val (.int p5), .val (.ref b1), .unset, .unset, .unset, .unset] [(.ref b25), (.ref b25)])) _
      refine XS.iconst X33.here hx rfl (hb hby at_20) ?_
      show Steps p.tables e below (T33.setTop (mkF m 21 #[.val (.int p1), .val (.int p2), .val (.int p3), .val (.int p4), .val (.int p5), .val (.ref b1), .unset, .unset, .unset, .unset] [(.int (1 : Int32)), (.ref b25), (.ref b25)])) _
      refine XS.iloadN X33.here hx rfl (hb hby at_21) rfl ?_
      show Steps p.tables e below (T33.setTop (mkF m 22 #[.val (.int p1), .val (.int p2), .val (.int p3), .val (.int p4), .val (.int p5), .val (.ref b1), .unset, .unset, .unset, .unset] [(.int p3), (.int (1 : Int32)), (.ref b25), (.ref b25)])) _
      refine XS.i2c X33.here hx rfl (hb hby at_22) rfl ?_
      exact k)
  obtain ⟨T38, h38, X38, e38, W38, st38⟩ := stC X33 hx hZ e33 Aw33 (j := (1 : Int32)) (own_in hS33 (by decide) (by decide)) (g := (mkF m 23 #[.val (.int p1), .val (.int p2), .val (.int p3), .val (.int p4), .val (.int p5), .val (.ref b1), .unset, .unset, .unset, .unset] [(.int (p3.toUInt32.toUInt16.toUInt32.toInt32)), (.int (1 : Int32)), (.ref b25), (.ref b25)])) rfl rfl (hb hby at_23)
  have J39 : ∀ t, Steps p.tables e below (T38.setTop (mkF m 24 #[.val (.int p1), .val (.int p2), .val (.int p3), .val (.int p4), .val (.int p5), .val (.ref b1), .unset, .unset, .unset, .unset] [(.ref b25)])) t → Steps p.tables e below (s₁.setTop (entryFrame m #[(.int p1), (.int p2), (.int p3), (.int p4), (.int p5)] maxLocals)) t := fun t k => J37 t (st38 t k)
  have Z40 : n0 ≤ h38.size := Nat.le_trans Z35 (Keep.of_wr W38).1
  have kz := Nat.le_trans kz (Keep.of_wr W38).1
  have N41 := Fr.snoc X38 N36 ge30
  obtain ⟨cl38, hcl38⟩ : ∃ z, z = cl33.setSlot ((1 : Int32)).toNatClampNeg (.int (nar .char (p3.toUInt32.toUInt16.toUInt32.toInt32))) := ⟨_, rfl⟩
  have Aw38 : Arr Z h38 b25 cl38 .char := by rw [hcl38]; exact Aw33.same W38
  have hS38 := own_ssz hcl38 hS33
  have hG38 := own_G_set hG33 hcl38 (fits_nar_char _)
  have J42 : ∀ t, Steps p.tables e below (T38.setTop (mkF m 28 #[.val (.int p1), .val (.int p2), .val (.int p3), .val (.int p4), .val (.int p5), .val (.ref b1), .unset, .unset, .unset, .unset] [(.int (p2.toUInt32.toUInt16.toUInt32.toInt32)), (.int (2 : Int32)), (.ref b25), (.ref b25)])) t → Steps p.tables e below (s₁.setTop (entryFrame m #[(.int p1), (.int p2), (.int p3), (.int p4), (.int p5)] maxLocals)) t := fun t k => J39 t (by
      show Steps p.tables e below (T38.setTop (mkF m 24 #[.val (.int p1), .val (.int p2), .val (.int p3), .val (.int p4), .val (.int p5), .val (.ref b1), .unset, .unset, .unset, .unset] [(.ref b25)])) _
      refine XS.dup X38.here hx rfl (hb hby at_24) rfl rfl ?_
      show Steps p.tables e below (T38.setTop (mkF m 25 #[.val (.int p1), .val (.int p2), .val (.int p3), .val (.int p4), .val (.int p5), .val (.ref b1), .unset, .unset, .unset, .unset] [(.ref b25), (.ref b25)])) _
      refine XS.iconst X38.here hx rfl (hb hby at_25) ?_
      show Steps p.tables e below (T38.setTop (mkF m 26 #[.val (.int p1), .val (.int p2), .val (.int p3), .val (.int p4), .val (.int p5), .val (.ref b1), .unset, .unset, .unset, .unset] [(.int (2 : Int32)), (.ref b25), (.ref b25)])) _
      refine XS.iloadN X38.here hx rfl (hb hby at_26) rfl ?_
      show Steps p.tables e below (T38.setTop (mkF m 27 #[.val (.int p1), .val (.int p2), .val (.int p3), .val (.int p4), .val (.int p5), .val (.ref b1), .unset, .unset, .unset, .unset] [(.int p2), (.int (2 : Int32)), (.ref b25), (.ref b25)])) _
      refine XS.i2c X38.here hx rfl (hb hby at_27) rfl ?_
      exact k)
  obtain ⟨T43, h43, X43, e43, W43, st43⟩ := stC X38 hx hZ e38 Aw38 (j := (2 : Int32)) (own_in hS38 (by decide) (by decide)) (g := (mkF m 28 #[.val (.int p1), .val (.int p2), .val (.int p3), .val (.int p4), .val (.int p5), .val (.ref b1), .unset, .unset, .unset, .unset] [(.int (p2.toUInt32.toUInt16.toUInt32.toInt32)), (.int (2 : Int32)), (.ref b25), (.ref b25)])) rfl rfl (hb hby at_28)
  have J44 : ∀ t, Steps p.tables e below (T43.setTop (mkF m 29 #[.val (.int p1), .val (.int p2), .val (.int p3), .val (.int p4), .val (.int p5), .val (.ref b1), .unset, .unset, .unset, .unset] [(.ref b25)])) t → Steps p.tables e below (s₁.setTop (entryFrame m #[(.int p1), (.int p2), (.int p3), (.int p4), (.int p5)] maxLocals)) t := fun t k => J42 t (st43 t k)
  have Z45 : n0 ≤ h43.size := Nat.le_trans Z40 (Keep.of_wr W43).1
  have kz := Nat.le_trans kz (Keep.of_wr W43).1
  have N46 := Fr.snoc X43 N41 ge30
  obtain ⟨cl43, hcl43⟩ : ∃ z, z = cl38.setSlot ((2 : Int32)).toNatClampNeg (.int (nar .char (p2.toUInt32.toUInt16.toUInt32.toInt32))) := ⟨_, rfl⟩
  have Aw43 : Arr Z h43 b25 cl43 .char := by rw [hcl43]; exact Aw38.same W43
  have hS43 := own_ssz hcl43 hS38
  have hG43 := own_G_set hG38 hcl43 (fits_nar_char _)
  have Av43 := own_arv (dv := .int 0) Aw43 hS43 (by decide) hG43
  have J47 : ∀ t, Steps p.tables e below (T43.setTop (mkF m 40 #[.val (.int p1), .val (.int p2), .val (.int p3), .val (.int p4), .val (.int p5), .val (.ref b1), .val (.ref b25), .unset, .unset, .unset] [(.int (p5 &&& (3 : Int32))), (.int (0 : Int32)), (.ref b25), (.ref b1)])) t → Steps p.tables e below (s₁.setTop (entryFrame m #[(.int p1), (.int p2), (.int p3), (.int p4), (.int p5)] maxLocals)) t := fun t k => J44 t (by
      show Steps p.tables e below (T43.setTop (mkF m 29 #[.val (.int p1), .val (.int p2), .val (.int p3), .val (.int p4), .val (.int p5), .val (.ref b1), .unset, .unset, .unset, .unset] [(.ref b25)])) _
      refine XS.astore X43.here hx rfl (hb hby at_29) rfl rfl (l' := #[.val (.int p1), .val (.int p2), .val (.int p3), .val (.int p4), .val (.int p5), .val (.ref b1), .val (.ref b25), .unset, .unset, .unset]) rfl ?_
      show Steps p.tables e below (T43.setTop (mkF m 31 #[.val (.int p1), .val (.int p2), .val (.int p3), .val (.int p4), .val (.int p5), .val (.ref b1), .val (.ref b25), .unset, .unset, .unset] [])) _
      refine XS.aload X43.here hx rfl (hb hby at_31) rfl rfl ?_
      show Steps p.tables e below (T43.setTop (mkF m 33 #[.val (.int p1), .val (.int p2), .val (.int p3), .val (.int p4), .val (.int p5), .val (.ref b1), .val (.ref b25), .unset, .unset, .unset] [(.ref b1)])) _
      refine XS.aload X43.here hx rfl (hb hby at_33) rfl rfl ?_
      show Steps p.tables e below (T43.setTop (mkF m 35 #[.val (.int p1), .val (.int p2), .val (.int p3), .val (.int p4), .val (.int p5), .val (.ref b1), .val (.ref b25), .unset, .unset, .unset] [(.ref b25), (.ref b1)])) _
      refine XS.iconst X43.here hx rfl (hb hby at_35) ?_
      show Steps p.tables e below (T43.setTop (mkF m 36 #[.val (.int p1), .val (.int p2), .val (.int p3), .val (.int p4), .val (.int p5), .val (.ref b1), .val (.ref b25), .unset, .unset, .unset] [(.int (0 : Int32)), (.ref b25), (.ref b1)])) _
      refine XS.iload X43.here hx rfl (hb hby at_36) rfl ?_
      show Steps p.tables e below (T43.setTop (mkF m 38 #[.val (.int p1), .val (.int p2), .val (.int p3), .val (.int p4), .val (.int p5), .val (.ref b1), .val (.ref b25), .unset, .unset, .unset] [(.int p5), (.int (0 : Int32)), (.ref b25), (.ref b1)])) _
      refine XS.iconst X43.here hx rfl (hb hby at_38) ?_
      show Steps p.tables e below (T43.setTop (mkF m 39 #[.val (.int p1), .val (.int p2), .val (.int p3), .val (.int p4), .val (.int p5), .val (.ref b1), .val (.ref b25), .unset, .unset, .unset] [(.int (3 : Int32)), (.int p5), (.int (0 : Int32)), (.ref b25), (.ref b1)])) _
      refine XS.iand X43.here hx rfl (hb hby at_39) rfl ?_
      exact k)
  obtain ⟨cnt, hcnt⟩ : ∃ z : Int32, z = (p5 &&& (3 : Int32)) := ⟨_, rfl⟩
  have J48 : ∀ t, Steps p.tables e below (T43.setTop (mkF m 40 #[.val (.int p1), .val (.int p2), .val (.int p3), .val (.int p4), .val (.int p5), .val (.ref b1), .val (.ref b25), .unset, .unset, .unset] [(.int cnt), (.int (0 : Int32)), (.ref b25), (.ref b1)])) t → Steps p.tables e below (s₁.setTop (entryFrame m #[(.int p1), (.int p2), (.int p3), (.int p4), (.int p5)] maxLocals)) t := fun t k => J47 t (by subst hcnt; exact k)
  have hcnt3 := own_and3 hcnt
  have f49 := p20_1.ext E25
  have f50 := f49.wr W33
  have f51 := f50.wr W38
  have f52 := f51.wr W43
  have f53 := p20_3.ext E25
  have f54 := f53.other W33 (Or.inl ne27)
  have f55 := f54.other W38 (Or.inl ne27)
  have f56 := f55.other W43 (Or.inl ne27)
  have f57 := p20_6.ext E25
  have f58 := f57.other W33 (Or.inl ne27)
  have f59 := f58.other W38 (Or.inl ne27)
  have f60 := f59.other W43 (Or.inl ne27)
  have f61 := p20_7.ext E25
  have f62 := f61.other W33 ne28
  have f63 := f62.other W38 ne28
  have f64 := f63.other W43 ne28
  have f65 := p20_2.ext E25
  have f66 := f65.other W33 (Or.inl ne27)
  have f67 := f66.other W38 (Or.inl ne27)
  have f68 := f67.other W43 (Or.inl ne27)
  have f69 := p20_4.ext E25
  have f70 := f69.other W33 (Or.inl ne27)
  have f71 := f70.other W38 (Or.inl ne27)
  have f72 := f71.other W43 (Or.inl ne27)
  have f73 := p20_5.ext E25
  have f74 := f73.other W33 (Or.inl ne27)
  have f75 := f74.other W38 (Or.inl ne27)
  have f76 := f75.other W43 (Or.inl ne27)
  obtain ⟨cq77, kq77, q77a, q77b, q77c⟩ := isOf hZ e43 f52
  obtain ⟨_, _, ⟨T77, L77, k77, n77⟩, -, X77, ⟨Lc77, hQ77, l77, y77, z77⟩, st77⟩ := X43.virtualBack hx (y := (⟨"com/example/capwright/capwright/csv/CsvRow", "append", "([CII)V"⟩ : MethodName)) (z := (⟨"com/example/capwright/capwright/csv/CsvRow", "append", "([CII)V"⟩ : MethodName)) hown (mvT hZ (hw _ (List.mem_of_getElem? (i := 53) rfl))) (mvT hZ (hw _ (List.mem_of_getElem? (i := 54) rfl))) (notFace_of_selects (args := #[]) (mvT hZ (hw _ (List.mem_of_getElem? (i := 56) rfl)))) (mvT hZ (hw _ (List.mem_of_getElem? (i := 56) rfl))) (mvT hZ (hw _ (List.mem_of_getElem? (i := 55) rfl))) (by decide) (backOf (W := 0) (rm6 l Z a0 hw [] b1 b25 ca_20 cnt _ (3 : Int32) _ _ _ (.int (0 : Int32)) (.ref ea_20) (.int (0 : Int32)) h43 n0 Z45 f52 ge3 p20_8 f56 f60 Av43 f64 hcnt3.1 hcnt3.2.1 hcnt3.2.2 (Nat.le_trans hcnt3.2.2 (by decide)) p20_11 p20_13 (Ne.symm ne28) ne27 f68 f72 f76) hZ (hw _ (List.mem_of_getElem? (i := 57) rfl)) (hw _ (List.mem_of_getElem? (i := 2) rfl)) (by decide) (by decide)) q77a q77c (g := (mkF m 40 #[.val (.int p1), .val (.int p2), .val (.int p3), .val (.int p4), .val (.int p5), .val (.ref b1), .val (.ref b25), .unset, .unset, .unset] [(.int cnt), (.int (0 : Int32)), (.ref b25), (.ref b1)])) rfl (by rw [hml]; rfl) (Steps.refl _) (argsL := [(.ref b25), (.int (0 : Int32)), (.int cnt)]) (rest := []) (lenOf pd_19 rfl) rfl (by show 2 * 0 + _ ≤ _; exact Nat.le_of_eq rfl) (hb hby at_40) (fun _ _ => ⟨rfl, e43, (by decide : 7 + 0 ≤ _), (by decide : 322 + 0 ≤ _)⟩)
  dsimp only [Pt.U, Pt.locs, Pt.cells, Pt.slots] at X77 l77 y77 z77 st77 hQ77
  subst y77 z77
  obtain ⟨vd'_77, rfl, Nq77, K77, p77_1, p77_2, p77_3, p77_4, p77_5, p77_6, p77_7, p77_8, p77_9⟩ := hQ77
  have N78 : Fr n0 L77 := by rw [l77]; exact Fr.app N46 Nq77
  have J79 : ∀ t, Steps p.tables e below (T77.setTop (mkF m 43 #[.val (.int p1), .val (.int p2), .val (.int p3), .val (.int p4), .val (.int p5), .val (.ref b1), .val (.ref b25), .unset, .unset, .unset] [])) t → Steps p.tables e below (s₁.setTop (entryFrame m #[(.int p1), (.int p2), (.int p3), (.int p4), (.int p5)] maxLocals)) t := fun t k => J48 t (st77.trans k)
  have Z80 : n0 ≤ T77.heap.size := Nat.le_trans Z45 K77.1
  have kz := Nat.le_trans kz K77.1
  have J81 : ∀ t, Steps p.tables e below (T77.setTop (mkF m 47 #[.val (.int p1), .val (.int p2), .val (.int p3), .val (.int p4), .val (.int p5), .val (.ref b1), .val (.ref b25), .unset, .unset, .unset] [(.int (p5 &&& (4 : Int32)))])) t → Steps p.tables e below (s₁.setTop (entryFrame m #[(.int p1), (.int p2), (.int p3), (.int p4), (.int p5)] maxLocals)) t := fun t k => J79 t (by
      show Steps p.tables e below (T77.setTop (mkF m 43 #[.val (.int p1), .val (.int p2), .val (.int p3), .val (.int p4), .val (.int p5), .val (.ref b1), .val (.ref b25), .unset, .unset, .unset] [])) _
      refine XS.iload X77.here hx rfl (hb hby at_43) rfl ?_
      show Steps p.tables e below (T77.setTop (mkF m 45 #[.val (.int p1), .val (.int p2), .val (.int p3), .val (.int p4), .val (.int p5), .val (.ref b1), .val (.ref b25), .unset, .unset, .unset] [(.int p5)])) _
      refine XS.iconst X77.here hx rfl (hb hby at_45) ?_
      show Steps p.tables e below (T77.setTop (mkF m 46 #[.val (.int p1), .val (.int p2), .val (.int p3), .val (.int p4), .val (.int p5), .val (.ref b1), .val (.ref b25), .unset, .unset, .unset] [(.int (4 : Int32)), (.int p5)])) _
      refine XS.iand X77.here hx rfl (hb hby at_46) rfl ?_
      exact k)
  by_cases h4 : (p5 &&& (4 : Int32)) = (0 : Int32)
  ·
    have J82 : ∀ t, Steps p.tables e below (T77.setTop (mkF m 55 #[.val (.int p1), .val (.int p2), .val (.int p3), .val (.int p4), .val (.int p5), .val (.ref b1), .val (.ref b25), .unset, .unset, .unset] [])) t → Steps p.tables e below (s₁.setTop (entryFrame m #[(.int p1), (.int p2), (.int p3), (.int p4), (.int p5)] maxLocals)) t := fun t k => J81 t (by
        show Steps p.tables e below (T77.setTop (mkF m 47 #[.val (.int p1), .val (.int p2), .val (.int p3), .val (.int p4), .val (.int p5), .val (.ref b1), .val (.ref b25), .unset, .unset, .unset] [(.int (p5 &&& (4 : Int32)))])) _
        refine XS.ifYes X77.here hx rfl (pc0 := 47) (pc' := 55) rfl (hb hby at_47) rfl ((if0 _ _).trans (teq h4).1) (by decide) (by decide) ?_
        exact k)
    by_cases hk : (255 : Int32) < ch
    ·
      have J83 : ∀ t, Steps p.tables e below (T77.setTop (mkF m 58 #[.val (.int p1), .val (.int p2), .val (.int p3), .val (.int p4), .val (.int p5), .val (.ref b1), .val (.ref b25), .unset, .unset, .unset] [(.int p1), (.ref b1)])) t → Steps p.tables e below (s₁.setTop (entryFrame m #[(.int p1), (.int p2), (.int p3), (.int p4), (.int p5)] maxLocals)) t := fun t k => J82 t (by
          show Steps p.tables e below (T77.setTop (mkF m 55 #[.val (.int p1), .val (.int p2), .val (.int p3), .val (.int p4), .val (.int p5), .val (.ref b1), .val (.ref b25), .unset, .unset, .unset] [])) _
          refine XS.aload X77.here hx rfl (hb hby at_55) rfl rfl ?_
          show Steps p.tables e below (T77.setTop (mkF m 57 #[.val (.int p1), .val (.int p2), .val (.int p3), .val (.int p4), .val (.int p5), .val (.ref b1), .val (.ref b25), .unset, .unset, .unset] [(.ref b1)])) _
          refine XS.iloadN X77.here hx rfl (hb hby at_57) rfl ?_
          exact k)
      obtain ⟨cq84, kq84, q84a, q84b, q84c⟩ := isOf hZ rfl p77_1
      obtain ⟨_, _, ⟨T84, L84, k84, n84⟩, -, X84, ⟨Lc84, hQ84, l84, y84, z84⟩, st84⟩ := X77.virtualBack hx (y := (⟨"com/example/capwright/capwright/csv/CsvRow", "clear", "(I)V"⟩ : MethodName)) (z := (⟨"com/example/capwright/capwright/csv/CsvRow", "clear", "(I)V"⟩ : MethodName)) hown (mvT hZ (hw _ (List.mem_of_getElem? (i := 62) rfl))) (mvT hZ (hw _ (List.mem_of_getElem? (i := 63) rfl))) (notFace_of_selects (args := #[]) (mvT hZ (hw _ (List.mem_of_getElem? (i := 65) rfl)))) (mvT hZ (hw _ (List.mem_of_getElem? (i := 65) rfl))) (mvT hZ (hw _ (List.mem_of_getElem? (i := 64) rfl))) (by decide) (backOf (W := 0) (rm7 l Z a0 hw [] b1 p1 (.int (0 : Int32)) (.int (0 : Int32)) (.int cnt) (.ref ca_20) (.ref ea_20) T77.heap n0 Z80 p77_1 ge3 p77_2 p77_4 p77_3 p77_5 p77_6) hZ (hw _ (List.mem_of_getElem? (i := 66) rfl)) (hw _ (List.mem_of_getElem? (i := 2) rfl)) (by decide) (by decide)) q84a q84c (g := (mkF m 58 #[.val (.int p1), .val (.int p2), .val (.int p3), .val (.int p4), .val (.int p5), .val (.ref b1), .val (.ref b25), .unset, .unset, .unset] [(.int p1), (.ref b1)])) rfl (by rw [hml]; rfl) (Steps.refl _) (argsL := [(.int p1)]) (rest := []) (lenOf pd_18 rfl) rfl (by show 2 * 0 + _ ≤ _; exact Nat.le_of_eq rfl) (hb hby at_58) (fun _ _ => ⟨rfl, rfl, (by decide : 7 + 0 ≤ _), (by decide : 322 + 0 ≤ _)⟩)
      dsimp only [Pt.U, Pt.locs, Pt.cells, Pt.slots] at X84 l84 y84 z84 st84 hQ84
      subst y84 z84
      obtain ⟨rfl, Nq84, K84, p84_1, p84_2, p84_3, p84_4, p84_5, p84_6⟩ := hQ84
      have N85 : Fr n0 L84 := by rw [l84]; exact Fr.app N78 Nq84
      have J86 : ∀ t, Steps p.tables e below (T84.setTop (mkF m 61 #[.val (.int p1), .val (.int p2), .val (.int p3), .val (.int p4), .val (.int p5), .val (.ref b1), .val (.ref b25), .unset, .unset, .unset] [])) t → Steps p.tables e below (s₁.setTop (entryFrame m #[(.int p1), (.int p2), (.int p3), (.int p4), (.int p5)] maxLocals)) t := fun t k => J83 t (st84.trans k)
      have Z87 : n0 ≤ T84.heap.size := Nat.le_trans Z80 K84.1
      have kz := Nat.le_trans kz K84.1
      have J88 : ∀ t, Steps p.tables e below (T84.setTop (mkF m 63 #[.val (.int p1), .val (.int p2), .val (.int p3), .val (.int p4), .val (.int p5), .val (.ref b1), .val (.ref b25), .unset, .unset, .unset] [(.ref b1)])) t → Steps p.tables e below (s₁.setTop (entryFrame m #[(.int p1), (.int p2), (.int p3), (.int p4), (.int p5)] maxLocals)) t := fun t k => J86 t (by
          show Steps p.tables e below (T84.setTop (mkF m 61 #[.val (.int p1), .val (.int p2), .val (.int p3), .val (.int p4), .val (.int p5), .val (.ref b1), .val (.ref b25), .unset, .unset, .unset] [])) _
          refine XS.aload X84.here hx rfl (hb hby at_61) rfl rfl ?_
          exact k)
      obtain ⟨cq89, kq89, q89a, q89b, q89c⟩ := isOf hZ rfl p84_1
      obtain ⟨_, _, ⟨T89, L89, k89, n89⟩, -, X89, ⟨Lc89, hQ89, l89, y89, z89⟩, st89⟩ := X84.virtualBack hx (y := (⟨"com/example/capwright/capwright/csv/CsvRow", "line", "()I"⟩ : MethodName)) (z := (⟨"com/example/capwright/capwright/csv/CsvRow", "line", "()I"⟩ : MethodName)) hown (mvT hZ (hw _ (List.mem_of_getElem? (i := 67) rfl))) (mvT hZ (hw _ (List.mem_of_getElem? (i := 68) rfl))) (notFace_of_selects (args := #[]) (mvT hZ (hw _ (List.mem_of_getElem? (i := 70) rfl)))) (mvT hZ (hw _ (List.mem_of_getElem? (i := 70) rfl))) (mvT hZ (hw _ (List.mem_of_getElem? (i := 69) rfl))) (by decide) (backOf (W := 0) (rm8 l Z a0 hw [] b1 p1 T84.heap n0 Z87 p84_4) hZ (hw _ (List.mem_of_getElem? (i := 71) rfl)) (hw _ (List.mem_of_getElem? (i := 2) rfl)) (by decide) (by decide)) q89a q89c (g := (mkF m 63 #[.val (.int p1), .val (.int p2), .val (.int p3), .val (.int p4), .val (.int p5), .val (.ref b1), .val (.ref b25), .unset, .unset, .unset] [(.ref b1)])) rfl (by rw [hml]; rfl) (Steps.refl _) (argsL := []) (rest := []) (lenOf pd_27 rfl) rfl (by show 2 * 0 + _ ≤ _; exact Nat.le_of_eq rfl) (hb hby at_63) (fun _ _ => ⟨rfl, rfl, (by decide : 7 + 0 ≤ _), (by decide : 322 + 0 ≤ _)⟩)
      dsimp only [Pt.U, Pt.locs, Pt.cells, Pt.slots] at X89 l89 y89 z89 st89 hQ89
      subst y89 z89
      obtain ⟨rfl, Nq89, e89⟩ := hQ89
      have N90 : Fr n0 L89 := by rw [l89]; exact Fr.app N85 Nq89
      have J91 : ∀ t, Steps p.tables e below (T89.setTop (mkF m 66 #[.val (.int p1), .val (.int p2), .val (.int p3), .val (.int p4), .val (.int p5), .val (.ref b1), .val (.ref b25), .unset, .unset, .unset] [(.int p1)])) t → Steps p.tables e below (s₁.setTop (entryFrame m #[(.int p1), (.int p2), (.int p3), (.int p4), (.int p5)] maxLocals)) t := fun t k => J88 t (st89.trans k)
      have J92 : ∀ t, Steps p.tables e below (T89.setTop (mkF m 72 #[.val (.int p1), .val (.int p2), .val (.int p3), .val (.int p4), .val (.int p5), .val (.ref b1), .val (.ref b25), .unset, .unset, .unset] [(.ref b1)])) t → Steps p.tables e below (s₁.setTop (entryFrame m #[(.int p1), (.int p2), (.int p3), (.int p4), (.int p5)] maxLocals)) t := fun t k => J91 t (by
          show Steps p.tables e below (T89.setTop (mkF m 66 #[.val (.int p1), .val (.int p2), .val (.int p3), .val (.int p4), .val (.int p5), .val (.ref b1), .val (.ref b25), .unset, .unset, .unset] [(.int p1)])) _
          refine XS.iloadN X89.here hx rfl (hb hby at_66) rfl ?_
          show Steps p.tables e below (T89.setTop (mkF m 67 #[.val (.int p1), .val (.int p2), .val (.int p3), .val (.int p4), .val (.int p5), .val (.ref b1), .val (.ref b25), .unset, .unset, .unset] [(.int p1), (.int p1)])) _
          refine XS.icmpNo X89.here hx rfl (hb hby at_67) rfl (teq rfl).2 ?_
          show Steps p.tables e below (T89.setTop (mkF m 70 #[.val (.int p1), .val (.int p2), .val (.int p3), .val (.int p4), .val (.int p5), .val (.ref b1), .val (.ref b25), .unset, .unset, .unset] [])) _
          refine XS.aload X89.here hx rfl (hb hby at_70) rfl rfl ?_
          exact k)
      obtain ⟨cq93, kq93, q93a, q93b, q93c⟩ := isOf hZ e89 p84_1
      obtain ⟨_, _, ⟨T93, L93, k93, n93⟩, -, X93, ⟨Lc93, hQ93, l93, y93, z93⟩, st93⟩ := X89.virtualBack hx (y := (⟨"com/example/capwright/capwright/csv/CsvRow", "size", "()I"⟩ : MethodName)) (z := (⟨"com/example/capwright/capwright/csv/CsvRow", "size", "()I"⟩ : MethodName)) hown (mvT hZ (hw _ (List.mem_of_getElem? (i := 72) rfl))) (mvT hZ (hw _ (List.mem_of_getElem? (i := 73) rfl))) (notFace_of_selects (args := #[]) (mvT hZ (hw _ (List.mem_of_getElem? (i := 75) rfl)))) (mvT hZ (hw _ (List.mem_of_getElem? (i := 75) rfl))) (mvT hZ (hw _ (List.mem_of_getElem? (i := 74) rfl))) (by decide) (backOf (W := 0) (rm9 l Z a0 hw [] b1 (0 : Int32) T84.heap n0 Z87 p84_5) hZ (hw _ (List.mem_of_getElem? (i := 76) rfl)) (hw _ (List.mem_of_getElem? (i := 2) rfl)) (by decide) (by decide)) q93a q93c (g := (mkF m 72 #[.val (.int p1), .val (.int p2), .val (.int p3), .val (.int p4), .val (.int p5), .val (.ref b1), .val (.ref b25), .unset, .unset, .unset] [(.ref b1)])) rfl (by rw [hml]; rfl) (Steps.refl _) (argsL := []) (rest := []) (lenOf pd_27 rfl) rfl (by show 2 * 0 + _ ≤ _; exact Nat.le_of_eq rfl) (hb hby at_72) (fun _ _ => ⟨rfl, e89, (by decide : 7 + 0 ≤ _), (by decide : 322 + 0 ≤ _)⟩)
      dsimp only [Pt.U, Pt.locs, Pt.cells, Pt.slots] at X93 l93 y93 z93 st93 hQ93
      subst y93 z93
      obtain ⟨rfl, Nq93, e93⟩ := hQ93
      have N94 : Fr n0 L93 := by rw [l93]; exact Fr.app N90 Nq93
      have J95 : ∀ t, Steps p.tables e below (T93.setTop (mkF m 75 #[.val (.int p1), .val (.int p2), .val (.int p3), .val (.int p4), .val (.int p5), .val (.ref b1), .val (.ref b25), .unset, .unset, .unset] [(.int (0 : Int32))])) t → Steps p.tables e below (s₁.setTop (entryFrame m #[(.int p1), (.int p2), (.int p3), (.int p4), (.int p5)] maxLocals)) t := fun t k => J92 t (st93.trans k)
      have J96 : ∀ t, Steps p.tables e below (T93.setTop (mkF m 86 #[.val (.int p1), .val (.int p2), .val (.int p3), .val (.int p4), .val (.int p5), .val (.ref b1), .val (.ref b25), .val (.int (1 : Int32)), .unset, .unset] [(.int (1 : Int32))])) t → Steps p.tables e below (s₁.setTop (entryFrame m #[(.int p1), (.int p2), (.int p3), (.int p4), (.int p5)] maxLocals)) t := fun t k => J95 t (by
          show Steps p.tables e below (T93.setTop (mkF m 75 #[.val (.int p1), .val (.int p2), .val (.int p3), .val (.int p4), .val (.int p5), .val (.ref b1), .val (.ref b25), .unset, .unset, .unset] [(.int (0 : Int32))])) _
          refine XS.ifNo X93.here hx rfl (hb hby at_75) rfl ((if0 _ _).trans (teq (by decide)).2) ?_
          show Steps p.tables e below (T93.setTop (mkF m 78 #[.val (.int p1), .val (.int p2), .val (.int p3), .val (.int p4), .val (.int p5), .val (.ref b1), .val (.ref b25), .unset, .unset, .unset] [])) _
          refine XS.iconst X93.here hx rfl (hb hby at_78) ?_
          show Steps p.tables e below (T93.setTop (mkF m 79 #[.val (.int p1), .val (.int p2), .val (.int p3), .val (.int p4), .val (.int p5), .val (.ref b1), .val (.ref b25), .unset, .unset, .unset] [(.int (1 : Int32))])) _
          refine XS.goto X93.here hx rfl (pc0 := 79) (pc' := 83) rfl (hb hby at_79) (by decide) (by decide) ?_
          show Steps p.tables e below (T93.setTop (mkF m 83 #[.val (.int p1), .val (.int p2), .val (.int p3), .val (.int p4), .val (.int p5), .val (.ref b1), .val (.ref b25), .unset, .unset, .unset] [(.int (1 : Int32))])) _
          refine XS.istore X93.here hx rfl (hb hby at_83) rfl (l' := #[.val (.int p1), .val (.int p2), .val (.int p3), .val (.int p4), .val (.int p5), .val (.ref b1), .val (.ref b25), .val (.int (1 : Int32)), .unset, .unset]) rfl ?_
          show Steps p.tables e below (T93.setTop (mkF m 85 #[.val (.int p1), .val (.int p2), .val (.int p3), .val (.int p4), .val (.int p5), .val (.ref b1), .val (.ref b25), .val (.int (1 : Int32)), .unset, .unset] [])) _
          refine XS.iconst X93.here hx rfl (hb hby at_85) ?_
          exact k)
      have f98 := p77_7.keep K84 (ninS (Ne.symm p20_13) nin0)
      have f99 := p20_9.ext E25
      have f100 := f99.other W33 ne29
      have f101 := f100.other W38 ne29
      have f102 := f101.other W43 ne29
      have f103 : Arr Z T77.heap ea_20 ecl_20 .int := ⟨K77.2.1 _ _ f102.1 (ninS (Ne.symm p20_14) (ninS (Ne.symm p20_15) nin0)), f102.2⟩
      have f104 : Arr Z T84.heap ea_20 ecl_20 .int := ⟨K84.2.1 _ _ f103.1 (ninS (Ne.symm p20_14) nin0), f103.2⟩
      have f105 := Av43.keep K77 (ninS (Ne.symm ne27) (ninS (Ne.symm ne28) nin0))
      have f106 := f105.keep K84 (ninS (Ne.symm ne27) nin0)
      obtain ⟨T97, h97, k97, X97, e97, E97, A97, st97⟩ := newP X93 hx hZ (hw _ (List.mem_of_getElem? (i := 20) rfl)) e93 (g := (mkF m 86 #[.val (.int p1), .val (.int p2), .val (.int p3), .val (.int p4), .val (.int p5), .val (.ref b1), .val (.ref b25), .val (.int (1 : Int32)), .unset, .unset] [(.int (1 : Int32))])) rfl (hb hby at_86) rfl (by decide) (cap := 1) (by decide) (by decide) (by decide) (by decide)
      obtain ⟨b97, g97⟩ : ∃ z, z = T84.heap.size := ⟨_, rfl⟩
      rw [← g97] at A97 st97
      obtain ⟨cl97, hcl97⟩ : ∃ z, z = newA k97 .char (1 : Int32) := ⟨_, rfl⟩
      have Aw97 : Arr Z h97 b97 cl97 .char := by rw [hcl97]; exact A97
      have J107 : ∀ t, Steps p.tables e below (T97.setTop (mkF m 88 #[.val (.int p1), .val (.int p2), .val (.int p3), .val (.int p4), .val (.int p5), .val (.ref b1), .val (.ref b25), .val (.int (1 : Int32)), .unset, .unset] [(.ref b97)])) t → Steps p.tables e below (s₁.setTop (entryFrame m #[(.int p1), (.int p2), (.int p3), (.int p4), (.int p5)] maxLocals)) t := fun t k => J96 t (st97 t k)
      have ne108 : b1 ≠ b97 := Nat.ne_of_lt (Nat.lt_of_lt_of_le p84_1.lt (Nat.le_of_eq g97.symm))
      have ne109 : ca_20 ≠ b97 := Nat.ne_of_lt (Nat.lt_of_lt_of_le f98.lt (Nat.le_of_eq g97.symm))
      have ne110 : ea_20 ≠ b97 := Nat.ne_of_lt (Nat.lt_of_lt_of_le f104.lt (Nat.le_of_eq g97.symm))
      have ne111 : b25 ≠ b97 := Nat.ne_of_lt (Nat.lt_of_lt_of_le f106.lt (Nat.le_of_eq g97.symm))
      have ge112 : n0 ≤ b97 := Nat.le_trans Z87 (Nat.le_of_eq g97.symm)
      have Z113 : n0 ≤ h97.size := Nat.le_trans Z87 E97.1
      have kz := Nat.le_trans kz E97.1
      have hS97 : cl97.slots.size = (1 : Int32).toNatClampNeg := by rw [hcl97, sz_new]
      have hG97 := own_G_new hcl97
      have J114 : ∀ t, Steps p.tables e below (T97.setTop (mkF m 92 #[.val (.int p1), .val (.int p2), .val (.int p3), .val (.int p4), .val (.int p5), .val (.ref b1), .val (.ref b25), .val (.int (1 : Int32)), .unset, .unset] [(.int (p4.toUInt32.toUInt16.toUInt32.toInt32)), (.int (0 : Int32)), (.ref b97), (.ref b97)])) t → Steps p.tables e below (s₁.setTop (entryFrame m #[(.int p1), (.int p2), (.int p3), (.int p4), (.int p5)] maxLocals)) t := fun t k => J107 t (by
          show Steps p.tables e below (T97.setTop (mkF m 88 #[.val (.int p1), .val (.int p2), .val (.int p3), .val (.int p4), .val (.int p5), .val (.ref b1), .val (.ref b25), .val (.int (1 : Int32)), .unset, .unset] [(.ref b97)])) _
          refine XS.dup X97.here hx rfl (hb hby at_88) rfl rfl ?_
          show Steps p.tables e below (T97.setTop (mkF m 89 #[.val (.int p1), .val (.int p2), .val (.int p3), .val (.int p4), .val (.int p5), .val (.ref b1), .val (.ref b25), .val (.int (1 : Int32)), .unset, .unset] [(.ref b97), (.ref b97)])) _
          refine XS.iconst X97.here hx rfl (hb hby at_89) ?_
          show Steps p.tables e below (T97.setTop (mkF m 90 #[.val (.int p1), .val (.int p2), .val (.int p3), .val (.int p4), .val (.int p5), .val (.ref b1), .val (.ref b25), .val (.int (1 : Int32)), .unset, .unset] [(.int (0 : Int32)), (.ref b97), (.ref b97)])) _
          refine XS.iloadN X97.here hx rfl (hb hby at_90) rfl ?_
          show Steps p.tables e below (T97.setTop (mkF m 91 #[.val (.int p1), .val (.int p2), .val (.int p3), .val (.int p4), .val (.int p5), .val (.ref b1), .val (.ref b25), .val (.int (1 : Int32)), .unset, .unset] [(.int p4), (.int (0 : Int32)), (.ref b97), (.ref b97)])) _
          refine XS.i2c X97.here hx rfl (hb hby at_91) rfl ?_
          exact k)
      have J115 : ∀ t, Steps p.tables e below (T97.setTop (mkF m 92 #[.val (.int p1), .val (.int p2), .val (.int p3), .val (.int p4), .val (.int p5), .val (.ref b1), .val (.ref b25), .val (.int (1 : Int32)), .unset, .unset] [(.int ch), (.int (0 : Int32)), (.ref b97), (.ref b97)])) t → Steps p.tables e below (s₁.setTop (entryFrame m #[(.int p1), (.int p2), (.int p3), (.int p4), (.int p5)] maxLocals)) t := fun t k => J114 t (by rw [hch0] at k; exact k)
      obtain ⟨T116, h116, X116, e116, W116, st116⟩ := stC X97 hx hZ e97 Aw97 (j := (0 : Int32)) (own_in hS97 (by decide) (by decide)) (g := (mkF m 92 #[.val (.int p1), .val (.int p2), .val (.int p3), .val (.int p4), .val (.int p5), .val (.ref b1), .val (.ref b25), .val (.int (1 : Int32)), .unset, .unset] [(.int ch), (.int (0 : Int32)), (.ref b97), (.ref b97)])) rfl rfl (hb hby at_92)
      have J117 : ∀ t, Steps p.tables e below (T116.setTop (mkF m 93 #[.val (.int p1), .val (.int p2), .val (.int p3), .val (.int p4), .val (.int p5), .val (.ref b1), .val (.ref b25), .val (.int (1 : Int32)), .unset, .unset] [(.ref b97)])) t → Steps p.tables e below (s₁.setTop (entryFrame m #[(.int p1), (.int p2), (.int p3), (.int p4), (.int p5)] maxLocals)) t := fun t k => J115 t (st116 t k)
      have Z118 : n0 ≤ h116.size := Nat.le_trans Z113 (Keep.of_wr W116).1
      have kz := Nat.le_trans kz (Keep.of_wr W116).1
      have N119 := Fr.snoc X116 N94 ge112
      obtain ⟨cl116, hcl116⟩ : ∃ z, z = cl97.setSlot ((0 : Int32)).toNatClampNeg (.int (nar .char ch)) := ⟨_, rfl⟩
      have Aw116 : Arr Z h116 b97 cl116 .char := by rw [hcl116]; exact Aw97.same W116
      have hS116 := own_ssz hcl116 hS97
      have hG116 := own_G_set hG97 hcl116 (fits_nar_char _)
      have hv116 : cl116.slots[0]? = some (.int ch) := (own_same hcl116 (by decide) (by rw [hS97]; decide)).trans (by rw [own_nch hch])
      have Av116 := own_arv (dv := .int 0) Aw116 hS116 (by decide) hG116
      have J120 : ∀ t, Steps p.tables e below (T116.setTop (mkF m 101 #[.val (.int p1), .val (.int p2), .val (.int p3), .val (.int p4), .val (.int p5), .val (.ref b1), .val (.ref b25), .val (.int (1 : Int32)), .val (.ref b97), .unset] [(.int (1 : Int32)), (.int (0 : Int32)), (.ref b97), (.ref b1)])) t → Steps p.tables e below (s₁.setTop (entryFrame m #[(.int p1), (.int p2), (.int p3), (.int p4), (.int p5)] maxLocals)) t := fun t k => J117 t (by
          show Steps p.tables e below (T116.setTop (mkF m 93 #[.val (.int p1), .val (.int p2), .val (.int p3), .val (.int p4), .val (.int p5), .val (.ref b1), .val (.ref b25), .val (.int (1 : Int32)), .unset, .unset] [(.ref b97)])) _
          refine XS.astore X116.here hx rfl (hb hby at_93) rfl rfl (l' := #[.val (.int p1), .val (.int p2), .val (.int p3), .val (.int p4), .val (.int p5), .val (.ref b1), .val (.ref b25), .val (.int (1 : Int32)), .val (.ref b97), .unset]) rfl ?_
          show Steps p.tables e below (T116.setTop (mkF m 95 #[.val (.int p1), .val (.int p2), .val (.int p3), .val (.int p4), .val (.int p5), .val (.ref b1), .val (.ref b25), .val (.int (1 : Int32)), .val (.ref b97), .unset] [])) _
          refine XS.aload X116.here hx rfl (hb hby at_95) rfl rfl ?_
          show Steps p.tables e below (T116.setTop (mkF m 97 #[.val (.int p1), .val (.int p2), .val (.int p3), .val (.int p4), .val (.int p5), .val (.ref b1), .val (.ref b25), .val (.int (1 : Int32)), .val (.ref b97), .unset] [(.ref b1)])) _
          refine XS.aload X116.here hx rfl (hb hby at_97) rfl rfl ?_
          show Steps p.tables e below (T116.setTop (mkF m 99 #[.val (.int p1), .val (.int p2), .val (.int p3), .val (.int p4), .val (.int p5), .val (.ref b1), .val (.ref b25), .val (.int (1 : Int32)), .val (.ref b97), .unset] [(.ref b97), (.ref b1)])) _
          refine XS.iconst X116.here hx rfl (hb hby at_99) ?_
          show Steps p.tables e below (T116.setTop (mkF m 100 #[.val (.int p1), .val (.int p2), .val (.int p3), .val (.int p4), .val (.int p5), .val (.ref b1), .val (.ref b25), .val (.int (1 : Int32)), .val (.ref b97), .unset] [(.int (0 : Int32)), (.ref b97), (.ref b1)])) _
          refine XS.iconst X116.here hx rfl (hb hby at_100) ?_
          exact k)
      have f121 := p84_1.ext E97
      have f122 := f121.wr W116
      have f123 := p84_2.ext E97
      have f124 := f123.other W116 (Or.inl ne108)
      have f125 := p84_6.ext E97
      have f126 := f125.other W116 (Or.inl ne108)
      have f127 := f98.ext E97
      have f128 := f127.other W116 ne109
      have f129 := p84_4.ext E97
      have f130 := f129.other W116 (Or.inl ne108)
      have f131 := p84_3.ext E97
      have f132 := f131.other W116 (Or.inl ne108)
      have f133 := p84_5.ext E97
      have f134 := f133.other W116 (Or.inl ne108)
      obtain ⟨cq135, kq135, q135a, q135b, q135c⟩ := isOf hZ e116 f122
      obtain ⟨_, _, ⟨T135, L135, k135, n135⟩, -, X135, ⟨Lc135, hQ135, l135, y135, z135⟩, st135⟩ := X116.virtualBack hx (y := (⟨"com/example/capwright/capwright/csv/CsvRow", "append", "([CII)V"⟩ : MethodName)) (z := (⟨"com/example/capwright/capwright/csv/CsvRow", "append", "([CII)V"⟩ : MethodName)) hown (mvT hZ (hw _ (List.mem_of_getElem? (i := 53) rfl))) (mvT hZ (hw _ (List.mem_of_getElem? (i := 54) rfl))) (notFace_of_selects (args := #[]) (mvT hZ (hw _ (List.mem_of_getElem? (i := 56) rfl)))) (mvT hZ (hw _ (List.mem_of_getElem? (i := 56) rfl))) (mvT hZ (hw _ (List.mem_of_getElem? (i := 55) rfl))) (by decide) (backOf (W := 0) (rm6 l Z a0 hw [] b1 b97 ca_20 (1 : Int32) _ (1 : Int32) _ _ _ (.int p1) (.ref ea_20) (.int (0 : Int32)) h116 n0 Z118 f122 ge3 p20_8 f124 f126 Av116 f128 (by decide) (by decide) (Nat.le_refl _) (by decide) p77_8 p20_13 (Ne.symm ne109) ne108 f130 f132 f134) hZ (hw _ (List.mem_of_getElem? (i := 57) rfl)) (hw _ (List.mem_of_getElem? (i := 2) rfl)) (by decide) (by decide)) q135a q135c (g := (mkF m 101 #[.val (.int p1), .val (.int p2), .val (.int p3), .val (.int p4), .val (.int p5), .val (.ref b1), .val (.ref b25), .val (.int (1 : Int32)), .val (.ref b97), .unset] [(.int (1 : Int32)), (.int (0 : Int32)), (.ref b97), (.ref b1)])) rfl (by rw [hml]; rfl) (Steps.refl _) (argsL := [(.ref b97), (.int (0 : Int32)), (.int (1 : Int32))]) (rest := []) (lenOf pd_19 rfl) rfl (by show 2 * 0 + _ ≤ _; exact Nat.le_of_eq rfl) (hb hby at_101) (fun _ _ => ⟨rfl, e116, (by decide : 8 + 0 ≤ _), (by decide : 323 + 0 ≤ _)⟩)
      dsimp only [Pt.U, Pt.locs, Pt.cells, Pt.slots] at X135 l135 y135 z135 st135 hQ135
      subst y135 z135
      obtain ⟨vd'_135, rfl, Nq135, K135, p135_1, p135_2, p135_3, p135_4, p135_5, p135_6, p135_7, p135_8, p135_9⟩ := hQ135
      have N136 : Fr n0 L135 := by rw [l135]; exact Fr.app N119 Nq135
      have J137 : ∀ t, Steps p.tables e below (T135.setTop (mkF m 104 #[.val (.int p1), .val (.int p2), .val (.int p3), .val (.int p4), .val (.int p5), .val (.ref b1), .val (.ref b25), .val (.int (1 : Int32)), .val (.ref b97), .unset] [])) t → Steps p.tables e below (s₁.setTop (entryFrame m #[(.int p1), (.int p2), (.int p3), (.int p4), (.int p5)] maxLocals)) t := fun t k => J120 t (st135.trans k)
      have Z138 : n0 ≤ T135.heap.size := Nat.le_trans Z118 K135.1
      have kz := Nat.le_trans kz K135.1
      have J139 : ∀ t, Steps p.tables e below (T135.setTop (mkF m 106 #[.val (.int p1), .val (.int p2), .val (.int p3), .val (.int p4), .val (.int p5), .val (.ref b1), .val (.ref b25), .val (.int (1 : Int32)), .val (.ref b97), .unset] [(.ref b1)])) t → Steps p.tables e below (s₁.setTop (entryFrame m #[(.int p1), (.int p2), (.int p3), (.int p4), (.int p5)] maxLocals)) t := fun t k => J137 t (by
          show Steps p.tables e below (T135.setTop (mkF m 104 #[.val (.int p1), .val (.int p2), .val (.int p3), .val (.int p4), .val (.int p5), .val (.ref b1), .val (.ref b25), .val (.int (1 : Int32)), .val (.ref b97), .unset] [])) _
          refine XS.aload X135.here hx rfl (hb hby at_104) rfl rfl ?_
          exact k)
      have f140 := f104.ext E97
      have f141 := f140.other W116 ne110
      have f142 : Arr Z T135.heap ea_20 ecl_20 .int := ⟨K135.2.1 _ _ f141.1 (ninS (Ne.symm p20_14) (ninS (Ne.symm p20_15) nin0)), f141.2⟩
      obtain ⟨cq143, kq143, q143a, q143b, q143c⟩ := isOf hZ rfl p135_1
      obtain ⟨_, _, ⟨T143, L143, k143, n143⟩, -, X143, ⟨Lc143, hQ143, l143, y143, z143⟩, st143⟩ := X135.virtualBack hx (y := (⟨"com/example/capwright/capwright/csv/CsvRow", "endField", "()V"⟩ : MethodName)) (z := (⟨"com/example/capwright/capwright/csv/CsvRow", "endField", "()V"⟩ : MethodName)) hown (mvT hZ (hw _ (List.mem_of_getElem? (i := 77) rfl))) (mvT hZ (hw _ (List.mem_of_getElem? (i := 78) rfl))) (notFace_of_selects (args := #[]) (mvT hZ (hw _ (List.mem_of_getElem? (i := 80) rfl)))) (mvT hZ (hw _ (List.mem_of_getElem? (i := 80) rfl))) (mvT hZ (hw _ (List.mem_of_getElem? (i := 79) rfl))) (by decide) (backOf (W := 0) (rm10 l Z a0 hw [] b1 ea_20 ecl_20 (1 : Int32) (.ref ca_20) (.int p1) T135.heap n0 Z138 p135_1 ge3 p135_2 p135_3 p135_4 p135_5 p135_6 f142 p20_10 p20_12 p20_14) hZ (hw _ (List.mem_of_getElem? (i := 81) rfl)) (hw _ (List.mem_of_getElem? (i := 2) rfl)) (by decide) (by decide)) q143a q143c (g := (mkF m 106 #[.val (.int p1), .val (.int p2), .val (.int p3), .val (.int p4), .val (.int p5), .val (.ref b1), .val (.ref b25), .val (.int (1 : Int32)), .val (.ref b97), .unset] [(.ref b1)])) rfl (by rw [hml]; rfl) (Steps.refl _) (argsL := []) (rest := []) (lenOf pd_3 rfl) rfl (by show 2 * 0 + _ ≤ _; exact Nat.le_of_eq rfl) (hb hby at_106) (fun _ _ => ⟨rfl, rfl, (by decide : 8 + 0 ≤ _), (by decide : 323 + 0 ≤ _)⟩)
      dsimp only [Pt.U, Pt.locs, Pt.cells, Pt.slots] at X143 l143 y143 z143 st143 hQ143
      subst y143 z143
      obtain ⟨ecl'_143, rfl, Nq143, K143, p143_1, p143_2, p143_3, p143_4, p143_5, p143_6, p143_7, p143_8, p143_9⟩ := hQ143
      have N144 : Fr n0 L143 := by rw [l143]; exact Fr.app N136 Nq143
      have J145 : ∀ t, Steps p.tables e below (T143.setTop (mkF m 109 #[.val (.int p1), .val (.int p2), .val (.int p3), .val (.int p4), .val (.int p5), .val (.ref b1), .val (.ref b25), .val (.int (1 : Int32)), .val (.ref b97), .unset] [])) t → Steps p.tables e below (s₁.setTop (entryFrame m #[(.int p1), (.int p2), (.int p3), (.int p4), (.int p5)] maxLocals)) t := fun t k => J139 t (st143.trans k)
      have Z146 : n0 ≤ T143.heap.size := Nat.le_trans Z138 K143.1
      have kz := Nat.le_trans kz K143.1
      have J147 : ∀ t, Steps p.tables e below (T143.setTop (mkF m 111 #[.val (.int p1), .val (.int p2), .val (.int p3), .val (.int p4), .val (.int p5), .val (.ref b1), .val (.ref b25), .val (.int (1 : Int32)), .val (.ref b97), .unset] [(.ref b1)])) t → Steps p.tables e below (s₁.setTop (entryFrame m #[(.int p1), (.int p2), (.int p3), (.int p4), (.int p5)] maxLocals)) t := fun t k => J145 t (by
          show Steps p.tables e below (T143.setTop (mkF m 109 #[.val (.int p1), .val (.int p2), .val (.int p3), .val (.int p4), .val (.int p5), .val (.ref b1), .val (.ref b25), .val (.int (1 : Int32)), .val (.ref b97), .unset] [])) _
          refine XS.aload X143.here hx rfl (hb hby at_109) rfl rfl ?_
          exact k)
      have f149 := p135_7.keep K143 (ninS (Ne.symm p20_13) (ninS p20_15 nin0))
      obtain ⟨cc148, Ac148, qk148, Sc148, hz148, Hc148, Gc148⟩ := id f149
      have hcz148 : cc148.slots.size = 256 := Sc148.trans (by decide)
      have hc0148 : cc148.slots[0]? = some (.int ch) := own_has0 Hc148 (by rw [hcz148]; decide) ((p135_9 rfl).trans (own_getD hv116))
      have f150 := f11.keep K20 (allS ge3 all0)
      have f151 := f150.ext E25
      have f152 := f151.wr W33 ge30
      have f153 := f152.wr W38 ge30
      have f154 := f153.wr W43 ge30
      have f155 := f154.keep K77 (allS ge3 (allS p20_8 all0))
      have f156 := f155.keep K84 (allS ge3 all0)
      have f157 := f156.ext E97
      have f158 := f157.wr W116 ge112
      have f159 := f158.keep K135 (allS ge3 (allS p20_8 all0))
      have f160 := f159.keep K143 (allS ge3 (allS p20_10 all0))
      obtain ⟨cq161, kq161, q161a, q161b, q161c⟩ := isOf hZ rfl p143_1
      obtain ⟨_, _, ⟨T161, L161, k161, n161⟩, -, X161, ⟨Lc161, hQ161, l161, y161, z161⟩, st161⟩ := X143.virtualBack hx (y := (⟨"com/example/capwright/capwright/csv/CsvRow", "fields", "()Ljava/util/List;"⟩ : MethodName)) (z := (⟨"com/example/capwright/capwright/csv/CsvRow", "fields", "()Ljava/util/List;"⟩ : MethodName)) hown (mvT hZ (hw _ (List.mem_of_getElem? (i := 82) rfl))) (mvT hZ (hw _ (List.mem_of_getElem? (i := 83) rfl))) (notFace_of_selects (args := #[]) (mvT hZ (hw _ (List.mem_of_getElem? (i := 85) rfl)))) (mvT hZ (hw _ (List.mem_of_getElem? (i := 85) rfl))) (mvT hZ (hw _ (List.mem_of_getElem? (i := 84) rfl))) (by decide) (backOf (W := 0) (rm11U l Z a0 hw [] b1 ca_20 cc148 ch ea_20 ecl'_143 cs fm T143.heap n0 Z146 p143_1 p143_5 p143_2 p143_4 Ac148 hcz148 hc0148 p143_7 p143_8 p143_9 hk f160 Zc (by assumption) Za Zh Zl (by assumption) Zf (by assumption)) hZ (hw _ (List.mem_of_getElem? (i := 86) rfl)) (hw _ (List.mem_of_getElem? (i := 2) rfl)) (by decide) (by decide)) q161a q161c (g := (mkF m 111 #[.val (.int p1), .val (.int p2), .val (.int p3), .val (.int p4), .val (.int p5), .val (.ref b1), .val (.ref b25), .val (.int (1 : Int32)), .val (.ref b97), .unset] [(.ref b1)])) rfl (by rw [hml]; rfl) (Steps.refl _) (argsL := []) (rest := []) (lenOf pd_28 rfl) rfl (by show 2 * 0 + _ ≤ _; exact Nat.le_of_eq rfl) (hb hby at_111) (fun _ _ => ⟨rfl, rfl, (by decide : 8 + 5 ≤ _), (by decide : 323 + 11 ≤ _)⟩)
      dsimp only [Pt.U, Pt.locs, Pt.cells, Pt.slots] at X161 l161 y161 z161 st161 hQ161
      subst y161 z161
      obtain ⟨lst_161, el_161, lcl_161, st_161, ba_161, bcl_161, rfl, Nq161, K161, p161_1, p161_2, p161_3, p161_4, p161_5, p161_6, p161_7, p161_8, p161_9, p161_10, p161_11, p161_12, p161_13⟩ := hQ161
      have N162 : Fr n0 L161 := by rw [l161]; exact Fr.app N144 Nq161
      have J163 : ∀ t, Steps p.tables e below (T161.setTop (mkF m 114 #[.val (.int p1), .val (.int p2), .val (.int p3), .val (.int p4), .val (.int p5), .val (.ref b1), .val (.ref b25), .val (.int (1 : Int32)), .val (.ref b97), .unset] [(.ref lst_161)])) t → Steps p.tables e below (s₁.setTop (entryFrame m #[(.int p1), (.int p2), (.int p3), (.int p4), (.int p5)] maxLocals)) t := fun t k => J147 t (st161.trans k)
      have Z164 : n0 ≤ T161.heap.size := Nat.le_trans Z146 K161.1
      have kz := Nat.le_trans kz K161.1
      have J165 : ∀ t, Steps p.tables e below (T161.setTop (mkF m 123 #[.val (.int p1), .val (.int p2), .val (.int p3), .val (.int p4), .val (.int p5), .val (.ref b1), .val (.ref b25), .val (.int (1 : Int32)), .val (.ref b97), .val (.ref lst_161)] [(.ref lst_161)])) t → Steps p.tables e below (s₁.setTop (entryFrame m #[(.int p1), (.int p2), (.int p3), (.int p4), (.int p5)] maxLocals)) t := fun t k => J163 t (by
          show Steps p.tables e below (T161.setTop (mkF m 114 #[.val (.int p1), .val (.int p2), .val (.int p3), .val (.int p4), .val (.int p5), .val (.ref b1), .val (.ref b25), .val (.int (1 : Int32)), .val (.ref b97), .unset] [(.ref lst_161)])) _
          refine XS.astore X161.here hx rfl (hb hby at_114) rfl rfl (l' := #[.val (.int p1), .val (.int p2), .val (.int p3), .val (.int p4), .val (.int p5), .val (.ref b1), .val (.ref b25), .val (.int (1 : Int32)), .val (.ref b97), .val (.ref lst_161)]) rfl ?_
          show Steps p.tables e below (T161.setTop (mkF m 116 #[.val (.int p1), .val (.int p2), .val (.int p3), .val (.int p4), .val (.int p5), .val (.ref b1), .val (.ref b25), .val (.int (1 : Int32)), .val (.ref b97), .val (.ref lst_161)] [])) _
          refine XS.iload X161.here hx rfl (hb hby at_116) rfl ?_
          show Steps p.tables e below (T161.setTop (mkF m 118 #[.val (.int p1), .val (.int p2), .val (.int p3), .val (.int p4), .val (.int p5), .val (.ref b1), .val (.ref b25), .val (.int (1 : Int32)), .val (.ref b97), .val (.ref lst_161)] [(.int (1 : Int32))])) _
          refine XS.ifNo X161.here hx rfl (hb hby at_118) rfl ((if0 _ _).trans (feq (by decide)).1) ?_
          show Steps p.tables e below (T161.setTop (mkF m 121 #[.val (.int p1), .val (.int p2), .val (.int p3), .val (.int p4), .val (.int p5), .val (.ref b1), .val (.ref b25), .val (.int (1 : Int32)), .val (.ref b97), .val (.ref lst_161)] [])) _
          refine XS.aload X161.here hx rfl (hb hby at_121) rfl rfl ?_
          exact k)
      obtain ⟨cq166, kq166, q166a, q166b, q166c⟩ := isOf hZ rfl p161_1
      obtain ⟨_, _, ⟨T166, L166, k166, n166⟩, -, X166, ⟨Lc166, hQ166, l166, y166, z166⟩, st166⟩ := X161.interfaceBack hx (xi := (⟨"java/util/List", "size", "()I"⟩ : MethodName)) (y := (⟨"java/util/ArrayList", "size", "()I"⟩ : MethodName)) hown (mvT hZ (hw _ (List.mem_of_getElem? (i := 164) rfl))) (mvT hZ (hw _ (List.mem_of_getElem? (i := 165) rfl))) (mvT hZ (hw _ (List.mem_of_getElem? (i := 166) rfl))) (mvT hZ (hw _ (List.mem_of_getElem? (i := 167) rfl))) (mvT hZ (hw _ (List.mem_of_getElem? (i := 168) rfl))) (mvT hZ (hw _ (List.mem_of_getElem? (i := 169) rfl))) (mvT hZ (hw _ (List.mem_of_getElem? (i := 170) rfl))) (mvT hZ (hw _ (List.mem_of_getElem? (i := 152) rfl))) (by decide) (backOf (W := 0) (rm25 l Z a0 hw [] lst_161 (1 : Int32) T161.heap n0 Z164 p161_2) hZ (hw _ (List.mem_of_getElem? (i := 171) rfl)) (hw _ (List.mem_of_getElem? (i := 89) rfl)) (by decide) (by decide)) q166a q166b q166c (g := (mkF m 123 #[.val (.int p1), .val (.int p2), .val (.int p3), .val (.int p4), .val (.int p5), .val (.ref b1), .val (.ref b25), .val (.int (1 : Int32)), .val (.ref b97), .val (.ref lst_161)] [(.ref lst_161)])) rfl (by rw [hml]; rfl) (Steps.refl _) (argsL := []) (rest := []) (lenOf pd_27 rfl) rfl (by show 2 * 0 + _ ≤ _; exact Nat.le_of_eq rfl) (hb hby at_123) (fun _ _ => ⟨rfl, rfl, (by decide : 13 + 0 ≤ _), (by decide : 334 + 0 ≤ _)⟩)
      dsimp only [Pt.U, Pt.locs, Pt.cells, Pt.slots] at X166 l166 y166 z166 st166 hQ166
      subst y166 z166
      obtain ⟨rfl, Nq166, e166⟩ := hQ166
      have N167 : Fr n0 L166 := by rw [l166]; exact Fr.app N162 Nq166
      have J168 : ∀ t, Steps p.tables e below (T166.setTop (mkF m 128 #[.val (.int p1), .val (.int p2), .val (.int p3), .val (.int p4), .val (.int p5), .val (.ref b1), .val (.ref b25), .val (.int (1 : Int32)), .val (.ref b97), .val (.ref lst_161)] [(.int (1 : Int32))])) t → Steps p.tables e below (s₁.setTop (entryFrame m #[(.int p1), (.int p2), (.int p3), (.int p4), (.int p5)] maxLocals)) t := fun t k => J165 t (st166.trans k)
      have J169 : ∀ t, Steps p.tables e below (T166.setTop (mkF m 135 #[.val (.int p1), .val (.int p2), .val (.int p3), .val (.int p4), .val (.int p5), .val (.ref b1), .val (.ref b25), .val (.int (1 : Int32)), .val (.ref b97), .val (.ref lst_161)] [(.int (0 : Int32)), (.ref lst_161)])) t → Steps p.tables e below (s₁.setTop (entryFrame m #[(.int p1), (.int p2), (.int p3), (.int p4), (.int p5)] maxLocals)) t := fun t k => J168 t (by
          show Steps p.tables e below (T166.setTop (mkF m 128 #[.val (.int p1), .val (.int p2), .val (.int p3), .val (.int p4), .val (.int p5), .val (.ref b1), .val (.ref b25), .val (.int (1 : Int32)), .val (.ref b97), .val (.ref lst_161)] [(.int (1 : Int32))])) _
          refine XS.iconst X166.here hx rfl (hb hby at_128) ?_
          show Steps p.tables e below (T166.setTop (mkF m 129 #[.val (.int p1), .val (.int p2), .val (.int p3), .val (.int p4), .val (.int p5), .val (.ref b1), .val (.ref b25), .val (.int (1 : Int32)), .val (.ref b97), .val (.ref lst_161)] [(.int (1 : Int32)), (.int (1 : Int32))])) _
          refine XS.icmpNo X166.here hx rfl (hb hby at_129) rfl (teq rfl).2 ?_
          show Steps p.tables e below (T166.setTop (mkF m 132 #[.val (.int p1), .val (.int p2), .val (.int p3), .val (.int p4), .val (.int p5), .val (.ref b1), .val (.ref b25), .val (.int (1 : Int32)), .val (.ref b97), .val (.ref lst_161)] [])) _
          refine XS.aload X166.here hx rfl (hb hby at_132) rfl rfl ?_
          show Steps p.tables e below (T166.setTop (mkF m 134 #[.val (.int p1), .val (.int p2), .val (.int p3), .val (.int p4), .val (.int p5), .val (.ref b1), .val (.ref b25), .val (.int (1 : Int32)), .val (.ref b97), .val (.ref lst_161)] [(.ref lst_161)])) _
          refine XS.iconst X166.here hx rfl (hb hby at_134) ?_
          exact k)
      obtain ⟨cq170, kq170, q170a, q170b, q170c⟩ := isOf hZ e166 p161_1
      obtain ⟨_, _, ⟨T170, L170, k170, n170⟩, -, X170, ⟨Lc170, hQ170, l170, y170, z170⟩, st170⟩ := X166.interfaceBack hx (xi := (⟨"java/util/List", "get", "(I)Ljava/lang/Object;"⟩ : MethodName)) (y := (⟨"java/util/ArrayList", "get", "(I)Ljava/lang/Object;"⟩ : MethodName)) hown (mvT hZ (hw _ (List.mem_of_getElem? (i := 172) rfl))) (mvT hZ (hw _ (List.mem_of_getElem? (i := 173) rfl))) (mvT hZ (hw _ (List.mem_of_getElem? (i := 174) rfl))) (mvT hZ (hw _ (List.mem_of_getElem? (i := 175) rfl))) (mvT hZ (hw _ (List.mem_of_getElem? (i := 176) rfl))) (mvT hZ (hw _ (List.mem_of_getElem? (i := 177) rfl))) (mvT hZ (hw _ (List.mem_of_getElem? (i := 178) rfl))) (mvT hZ (hw _ (List.mem_of_getElem? (i := 152) rfl))) (by decide) (backOf (W := 0) (rm26 l Z a0 hw [] lst_161 st_161 el_161 lcl_161 T161.heap n0 Z164 p161_1 p161_4 p161_5 p161_6 p161_3 p161_2) hZ (hw _ (List.mem_of_getElem? (i := 179) rfl)) (hw _ (List.mem_of_getElem? (i := 89) rfl)) (by decide) (by decide)) q170a q170b q170c (g := (mkF m 135 #[.val (.int p1), .val (.int p2), .val (.int p3), .val (.int p4), .val (.int p5), .val (.ref b1), .val (.ref b25), .val (.int (1 : Int32)), .val (.ref b97), .val (.ref lst_161)] [(.int (0 : Int32)), (.ref lst_161)])) rfl (by rw [hml]; rfl) (Steps.refl _) (argsL := [(.int (0 : Int32))]) (rest := []) (lenOf pd_7 rfl) rfl (by show 2 * 0 + _ ≤ _; exact Nat.le_of_eq rfl) (hb hby at_135) (fun _ _ => ⟨rfl, e166, (by decide : 13 + 0 ≤ _), (by decide : 334 + 0 ≤ _)⟩)
      dsimp only [Pt.U, Pt.locs, Pt.cells, Pt.slots] at X170 l170 y170 z170 st170 hQ170
      subst y170 z170
      obtain ⟨rfl, Nq170, e170⟩ := hQ170
      have N171 : Fr n0 L170 := by rw [l170]; exact Fr.app N167 Nq170
      have J172 : ∀ t, Steps p.tables e below (T170.setTop (mkF m 140 #[.val (.int p1), .val (.int p2), .val (.int p3), .val (.int p4), .val (.int p5), .val (.ref b1), .val (.ref b25), .val (.int (1 : Int32)), .val (.ref b97), .val (.ref lst_161)] [(.ref st_161)])) t → Steps p.tables e below (s₁.setTop (entryFrame m #[(.int p1), (.int p2), (.int p3), (.int p4), (.int p5)] maxLocals)) t := fun t k => J169 t (st170.trans k)
      obtain ⟨T173, X173, e173, st173⟩ := castY X170 hx hZ hown (hw _ (List.mem_of_getElem? (i := 192) rfl)) e170 (Ins.self p161_7) (g := (mkF m 140 #[.val (.int p1), .val (.int p2), .val (.int p3), .val (.int p4), .val (.int p5), .val (.ref b1), .val (.ref b25), .val (.int (1 : Int32)), .val (.ref b97), .val (.ref lst_161)] [(.ref st_161)])) rfl rfl (hb hby at_140)
      have J174 : ∀ t, Steps p.tables e below (T173.setTop (mkF m 143 #[.val (.int p1), .val (.int p2), .val (.int p3), .val (.int p4), .val (.int p5), .val (.ref b1), .val (.ref b25), .val (.int (1 : Int32)), .val (.ref b97), .val (.ref lst_161)] [(.ref st_161)])) t → Steps p.tables e below (s₁.setTop (entryFrame m #[(.int p1), (.int p2), (.int p3), (.int p4), (.int p5)] maxLocals)) t := fun t k => J172 t (st173 t k)
      have J175 : ∀ t, Steps p.tables e below (T173.setTop (mkF m 145 #[.val (.int p1), .val (.int p2), .val (.int p3), .val (.int p4), .val (.int p5), .val (.ref b1), .val (.ref b25), .val (.int (1 : Int32)), .val (.ref b97), .val (.ref lst_161)] [(.int (p4.toUInt32.toUInt16.toUInt32.toInt32)), (.ref st_161)])) t → Steps p.tables e below (s₁.setTop (entryFrame m #[(.int p1), (.int p2), (.int p3), (.int p4), (.int p5)] maxLocals)) t := fun t k => J174 t (by
          show Steps p.tables e below (T173.setTop (mkF m 143 #[.val (.int p1), .val (.int p2), .val (.int p3), .val (.int p4), .val (.int p5), .val (.ref b1), .val (.ref b25), .val (.int (1 : Int32)), .val (.ref b97), .val (.ref lst_161)] [(.ref st_161)])) _
          refine XS.iloadN X173.here hx rfl (hb hby at_143) rfl ?_
          show Steps p.tables e below (T173.setTop (mkF m 144 #[.val (.int p1), .val (.int p2), .val (.int p3), .val (.int p4), .val (.int p5), .val (.ref b1), .val (.ref b25), .val (.int (1 : Int32)), .val (.ref b97), .val (.ref lst_161)] [(.int p4), (.ref st_161)])) _
          refine XS.i2c X173.here hx rfl (hb hby at_144) rfl ?_
          exact k)
      have J176 : ∀ t, Steps p.tables e below (T173.setTop (mkF m 145 #[.val (.int p1), .val (.int p2), .val (.int p3), .val (.int p4), .val (.int p5), .val (.ref b1), .val (.ref b25), .val (.int (1 : Int32)), .val (.ref b97), .val (.ref lst_161)] [(.int ch), (.ref st_161)])) t → Steps p.tables e below (s₁.setTop (entryFrame m #[(.int p1), (.int p2), (.int p3), (.int p4), (.int p5)] maxLocals)) t := fun t k => J175 t (by rw [hch0] at k; exact k)
      have f177 := p143_1.keep K161
      have f178 := f149.keep K161 nin0
      have f179 : Arr Z T161.heap ea_20 ecl'_143 .int := ⟨K161.2.1 _ _ p143_7.1 nin0, p143_7.2⟩
      have f180 := f106.ext E97
      have f181 := f180.other W116 ne111
      have f182 := f181.keep K135 (ninS (Ne.symm ne27) (ninS (Ne.symm ne28) nin0))
      have f183 := f182.keep K143 (ninS (Ne.symm ne27) (ninS (Ne.symm ne29) nin0))
      have f184 := f183.keep K161 nin0
      have f185 := Av116.keep K135 (ninS (Ne.symm ne108) (ninS (Ne.symm ne109) nin0))
      have f186 := f185.keep K143 (ninS (Ne.symm ne108) (ninS (Ne.symm ne110) nin0))
      have f187 := f186.keep K161 nin0
      have f188 := f160.keep K161 all0
      obtain ⟨_, _, ⟨T189, L189, k189, n189⟩, -, X189, ⟨Lc189, hQ189, l189, y189, z189⟩, st189⟩ := Jvm.LawKit.callS X173 hx (y := (⟨"java/lang/String", "valueOf", "(C)Ljava/lang/String;"⟩ : MethodName)) hown (mvT hZ (hw _ (List.mem_of_getElem? (i := 193) rfl))) (mvT hZ (hw _ (List.mem_of_getElem? (i := 194) rfl))) (mvT hZ (hw _ (List.mem_of_getElem? (i := 4) rfl))) (mvT hZ (hw _ (List.mem_of_getElem? (i := 195) rfl))) (by decide) (backOf (W := 1) (rm30U l Z a0 hw [] ch cs T161.heap n0 Z164 hk f188 Zc (by assumption) Za Zh Zl) hZ (hw _ (List.mem_of_getElem? (i := 195) rfl)) (hw _ (List.mem_of_getElem? (i := 4) rfl)) (by decide) (by decide)) (g := (mkF m 145 #[.val (.int p1), .val (.int p2), .val (.int p3), .val (.int p4), .val (.int p5), .val (.ref b1), .val (.ref b25), .val (.int (1 : Int32)), .val (.ref b97), .val (.ref lst_161)] [(.int ch), (.ref st_161)])) rfl (by rw [hml]; rfl) (argsL := [(.int ch)]) (rest := [(.ref st_161)]) (lenOf pd_29 rfl) rfl (by show 2 * 0 + _ ≤ _; exact Nat.le_of_eq rfl) (hb hby at_145) (fun _ _ => ⟨rfl, e173, (by decide : 13 + 2 ≤ _), (by decide : 334 + 6 ≤ _)⟩)
      dsimp only [Pt.U, Pt.locs, Pt.cells, Pt.slots] at X189 l189 y189 z189 st189 hQ189
      subst y189 z189
      obtain ⟨st_189, ba_189, bcl_189, rfl, Nq189, K189, p189_1, p189_2, p189_3, p189_4, p189_5, p189_6, p189_7, p189_8⟩ := hQ189
      have N190 : Fr n0 L189 := by rw [l189]; exact Fr.app N171 Nq189
      have J191 : ∀ t, Steps p.tables e below (T189.setTop (mkF m 148 #[.val (.int p1), .val (.int p2), .val (.int p3), .val (.int p4), .val (.int p5), .val (.ref b1), .val (.ref b25), .val (.int (1 : Int32)), .val (.ref b97), .val (.ref lst_161)] [(.ref st_189), (.ref st_161)])) t → Steps p.tables e below (s₁.setTop (entryFrame m #[(.int p1), (.int p2), (.int p3), (.int p4), (.int p5)] maxLocals)) t := fun t k => J176 t (st189 t k)
      have Z192 : n0 ≤ T189.heap.size := Nat.le_trans Z164 K189.1
      have kz := Nat.le_trans kz K189.1
      have f193 := p161_7.keep K189
      have f194 := p161_8.keep K189 nin0
      have f195 := p161_9.keep K189 nin0
      have f196 : Arr Z T189.heap ba_161 bcl_161 .byte := ⟨K189.2.1 _ _ p161_10.1 nin0, p161_10.2⟩
      have f197 := f188.keep K189 all0
      obtain ⟨cq198, kq198, q198a, q198b, q198c⟩ := isOf hZ rfl f193
      obtain ⟨_, _, ⟨T198, L198, k198, n198⟩, -, X198, ⟨Lc198, hQ198, l198, y198, z198⟩, st198⟩ := X189.virtualBack hx (y := (⟨"java/lang/String", "equals", "(Ljava/lang/Object;)Z"⟩ : MethodName)) (z := (⟨"java/lang/String", "equals", "(Ljava/lang/Object;)Z"⟩ : MethodName)) hown (mvT hZ (hw _ (List.mem_of_getElem? (i := 207) rfl))) (mvT hZ (hw _ (List.mem_of_getElem? (i := 208) rfl))) (notFace_of_selects (args := #[]) (mvT hZ (hw _ (List.mem_of_getElem? (i := 210) rfl)))) (mvT hZ (hw _ (List.mem_of_getElem? (i := 210) rfl))) (mvT hZ (hw _ (List.mem_of_getElem? (i := 209) rfl))) (by decide) (backOf (W := 0) (rm34U l Z a0 hw [] st_161 st_189 ba_161 ba_189 bcl_161 bcl_189 (own_u0 ch) (own_u1 ch) cs T189.heap n0 Z192 f193 p189_1 (Nat.ne_of_lt (Nat.lt_of_lt_of_le p161_7.lt p189_8)) f194 p189_2 f195 p189_3 f196 p189_4 p161_11 p189_5 p161_12 p189_6 p161_13 p189_7 f197 Zc (by assumption)) hZ (hw _ (List.mem_of_getElem? (i := 211) rfl)) (hw _ (List.mem_of_getElem? (i := 4) rfl)) (by decide) (by decide)) q198a q198c (g := (mkF m 148 #[.val (.int p1), .val (.int p2), .val (.int p3), .val (.int p4), .val (.int p5), .val (.ref b1), .val (.ref b25), .val (.int (1 : Int32)), .val (.ref b97), .val (.ref lst_161)] [(.ref st_189), (.ref st_161)])) rfl (by rw [hml]; rfl) (Steps.refl _) (argsL := [(.ref st_189)]) (rest := []) (lenOf pd_20 rfl) rfl (by show 2 * 0 + _ ≤ _; exact Nat.le_of_eq rfl) (hb hby at_148) (fun _ _ => ⟨rfl, rfl, (by decide : 15 + 0 ≤ _), (by decide : 340 + 0 ≤ _)⟩)
      dsimp only [Pt.U, Pt.locs, Pt.cells, Pt.slots] at X198 l198 y198 z198 st198 hQ198
      subst y198 z198
      obtain ⟨rfl, Nq198, e198⟩ := hQ198
      have N199 : Fr n0 L198 := by rw [l198]; exact Fr.app N190 Nq198
      have J200 : ∀ t, Steps p.tables e below (T198.setTop (mkF m 151 #[.val (.int p1), .val (.int p2), .val (.int p3), .val (.int p4), .val (.int p5), .val (.ref b1), .val (.ref b25), .val (.int (1 : Int32)), .val (.ref b97), .val (.ref lst_161)] [(.int (1 : Int32))])) t → Steps p.tables e below (s₁.setTop (entryFrame m #[(.int p1), (.int p2), (.int p3), (.int p4), (.int p5)] maxLocals)) t := fun t k => J191 t (st198.trans k)
      have J201 : ∀ t, Steps p.tables e below (T198.setTop (mkF m 159 #[.val (.int p1), .val (.int p2), .val (.int p3), .val (.int p4), .val (.int p5), .val (.ref b1), .val (.ref b25), .val (.int (1 : Int32)), .val (.ref b97), .val (.ref lst_161)] [(.int (1 : Int32))])) t → Steps p.tables e below (s₁.setTop (entryFrame m #[(.int p1), (.int p2), (.int p3), (.int p4), (.int p5)] maxLocals)) t := fun t k => J200 t (by
          show Steps p.tables e below (T198.setTop (mkF m 151 #[.val (.int p1), .val (.int p2), .val (.int p3), .val (.int p4), .val (.int p5), .val (.ref b1), .val (.ref b25), .val (.int (1 : Int32)), .val (.ref b97), .val (.ref lst_161)] [(.int (1 : Int32))])) _
          refine XS.ifNo X198.here hx rfl (hb hby at_151) rfl ((if0 _ _).trans (feq (by decide)).1) ?_
          show Steps p.tables e below (T198.setTop (mkF m 154 #[.val (.int p1), .val (.int p2), .val (.int p3), .val (.int p4), .val (.int p5), .val (.ref b1), .val (.ref b25), .val (.int (1 : Int32)), .val (.ref b97), .val (.ref lst_161)] [])) _
          refine XS.iconst X198.here hx rfl (hb hby at_154) ?_
          show Steps p.tables e below (T198.setTop (mkF m 155 #[.val (.int p1), .val (.int p2), .val (.int p3), .val (.int p4), .val (.int p5), .val (.ref b1), .val (.ref b25), .val (.int (1 : Int32)), .val (.ref b97), .val (.ref lst_161)] [(.int (1 : Int32))])) _
          refine XS.goto X198.here hx rfl (pc0 := 155) (pc' := 159) rfl (hb hby at_155) (by decide) (by decide) ?_
          exact k)
      obtain ⟨fs, hr, hrun, hended, hWW⟩ := X198.leaveW hSi (by rw [e198]; exact kz) (v := some (.int (1 : Int32))) (fun h => by rw [Bd.returns] at h; cases h)
      refine ⟨_, _, J201 _ ?_, hrun, hended, _, _, rfl, ?_, hWW.1, hWW.2.1, hWW.2.2.1, hWW.2.2.2.mono (by decide) (by decide)⟩
      · show Steps p.tables e below (T198.setTop (mkF m 159 #[.val (.int p1), .val (.int p2), .val (.int p3), .val (.int p4), .val (.int p5), .val (.ref b1), .val (.ref b25), .val (.int (1 : Int32)), .val (.ref b97), .val (.ref lst_161)] [(.int (1 : Int32))])) _
        exact retN X198 hx (t := .boolean) Bd.returns (by simp) (hb hby at_159) hr
      · show Q0 Z p1 p2 p3 p4 p5 h0 n0 _ T198.heap _
        rw [e198]
        exact ⟨rfl, N199⟩
    ·
      have J202 : ∀ t, Steps p.tables e below (T77.setTop (mkF m 58 #[.val (.int p1), .val (.int p2), .val (.int p3), .val (.int p4), .val (.int p5), .val (.ref b1), .val (.ref b25), .unset, .unset, .unset] [(.int p1), (.ref b1)])) t → Steps p.tables e below (s₁.setTop (entryFrame m #[(.int p1), (.int p2), (.int p3), (.int p4), (.int p5)] maxLocals)) t := fun t k => J82 t (by
          show Steps p.tables e below (T77.setTop (mkF m 55 #[.val (.int p1), .val (.int p2), .val (.int p3), .val (.int p4), .val (.int p5), .val (.ref b1), .val (.ref b25), .unset, .unset, .unset] [])) _
          refine XS.aload X77.here hx rfl (hb hby at_55) rfl rfl ?_
          show Steps p.tables e below (T77.setTop (mkF m 57 #[.val (.int p1), .val (.int p2), .val (.int p3), .val (.int p4), .val (.int p5), .val (.ref b1), .val (.ref b25), .unset, .unset, .unset] [(.ref b1)])) _
          refine XS.iloadN X77.here hx rfl (hb hby at_57) rfl ?_
          exact k)
      obtain ⟨cq203, kq203, q203a, q203b, q203c⟩ := isOf hZ rfl p77_1
      obtain ⟨_, _, ⟨T203, L203, k203, n203⟩, -, X203, ⟨Lc203, hQ203, l203, y203, z203⟩, st203⟩ := X77.virtualBack hx (y := (⟨"com/example/capwright/capwright/csv/CsvRow", "clear", "(I)V"⟩ : MethodName)) (z := (⟨"com/example/capwright/capwright/csv/CsvRow", "clear", "(I)V"⟩ : MethodName)) hown (mvT hZ (hw _ (List.mem_of_getElem? (i := 62) rfl))) (mvT hZ (hw _ (List.mem_of_getElem? (i := 63) rfl))) (notFace_of_selects (args := #[]) (mvT hZ (hw _ (List.mem_of_getElem? (i := 65) rfl)))) (mvT hZ (hw _ (List.mem_of_getElem? (i := 65) rfl))) (mvT hZ (hw _ (List.mem_of_getElem? (i := 64) rfl))) (by decide) (backOf (W := 0) (rm7 l Z a0 hw [] b1 p1 (.int (0 : Int32)) (.int (0 : Int32)) (.int cnt) (.ref ca_20) (.ref ea_20) T77.heap n0 Z80 p77_1 ge3 p77_2 p77_4 p77_3 p77_5 p77_6) hZ (hw _ (List.mem_of_getElem? (i := 66) rfl)) (hw _ (List.mem_of_getElem? (i := 2) rfl)) (by decide) (by decide)) q203a q203c (g := (mkF m 58 #[.val (.int p1), .val (.int p2), .val (.int p3), .val (.int p4), .val (.int p5), .val (.ref b1), .val (.ref b25), .unset, .unset, .unset] [(.int p1), (.ref b1)])) rfl (by rw [hml]; rfl) (Steps.refl _) (argsL := [(.int p1)]) (rest := []) (lenOf pd_18 rfl) rfl (by show 2 * 0 + _ ≤ _; exact Nat.le_of_eq rfl) (hb hby at_58) (fun _ _ => ⟨rfl, rfl, (by decide : 7 + 0 ≤ _), (by decide : 322 + 0 ≤ _)⟩)
      dsimp only [Pt.U, Pt.locs, Pt.cells, Pt.slots] at X203 l203 y203 z203 st203 hQ203
      subst y203 z203
      obtain ⟨rfl, Nq203, K203, p203_1, p203_2, p203_3, p203_4, p203_5, p203_6⟩ := hQ203
      have N204 : Fr n0 L203 := by rw [l203]; exact Fr.app N78 Nq203
      have J205 : ∀ t, Steps p.tables e below (T203.setTop (mkF m 61 #[.val (.int p1), .val (.int p2), .val (.int p3), .val (.int p4), .val (.int p5), .val (.ref b1), .val (.ref b25), .unset, .unset, .unset] [])) t → Steps p.tables e below (s₁.setTop (entryFrame m #[(.int p1), (.int p2), (.int p3), (.int p4), (.int p5)] maxLocals)) t := fun t k => J202 t (st203.trans k)
      have Z206 : n0 ≤ T203.heap.size := Nat.le_trans Z80 K203.1
      have kz := Nat.le_trans kz K203.1
      have J207 : ∀ t, Steps p.tables e below (T203.setTop (mkF m 63 #[.val (.int p1), .val (.int p2), .val (.int p3), .val (.int p4), .val (.int p5), .val (.ref b1), .val (.ref b25), .unset, .unset, .unset] [(.ref b1)])) t → Steps p.tables e below (s₁.setTop (entryFrame m #[(.int p1), (.int p2), (.int p3), (.int p4), (.int p5)] maxLocals)) t := fun t k => J205 t (by
          show Steps p.tables e below (T203.setTop (mkF m 61 #[.val (.int p1), .val (.int p2), .val (.int p3), .val (.int p4), .val (.int p5), .val (.ref b1), .val (.ref b25), .unset, .unset, .unset] [])) _
          refine XS.aload X203.here hx rfl (hb hby at_61) rfl rfl ?_
          exact k)
      obtain ⟨cq208, kq208, q208a, q208b, q208c⟩ := isOf hZ rfl p203_1
      obtain ⟨_, _, ⟨T208, L208, k208, n208⟩, -, X208, ⟨Lc208, hQ208, l208, y208, z208⟩, st208⟩ := X203.virtualBack hx (y := (⟨"com/example/capwright/capwright/csv/CsvRow", "line", "()I"⟩ : MethodName)) (z := (⟨"com/example/capwright/capwright/csv/CsvRow", "line", "()I"⟩ : MethodName)) hown (mvT hZ (hw _ (List.mem_of_getElem? (i := 67) rfl))) (mvT hZ (hw _ (List.mem_of_getElem? (i := 68) rfl))) (notFace_of_selects (args := #[]) (mvT hZ (hw _ (List.mem_of_getElem? (i := 70) rfl)))) (mvT hZ (hw _ (List.mem_of_getElem? (i := 70) rfl))) (mvT hZ (hw _ (List.mem_of_getElem? (i := 69) rfl))) (by decide) (backOf (W := 0) (rm8 l Z a0 hw [] b1 p1 T203.heap n0 Z206 p203_4) hZ (hw _ (List.mem_of_getElem? (i := 71) rfl)) (hw _ (List.mem_of_getElem? (i := 2) rfl)) (by decide) (by decide)) q208a q208c (g := (mkF m 63 #[.val (.int p1), .val (.int p2), .val (.int p3), .val (.int p4), .val (.int p5), .val (.ref b1), .val (.ref b25), .unset, .unset, .unset] [(.ref b1)])) rfl (by rw [hml]; rfl) (Steps.refl _) (argsL := []) (rest := []) (lenOf pd_27 rfl) rfl (by show 2 * 0 + _ ≤ _; exact Nat.le_of_eq rfl) (hb hby at_63) (fun _ _ => ⟨rfl, rfl, (by decide : 7 + 0 ≤ _), (by decide : 322 + 0 ≤ _)⟩)
      dsimp only [Pt.U, Pt.locs, Pt.cells, Pt.slots] at X208 l208 y208 z208 st208 hQ208
      subst y208 z208
      obtain ⟨rfl, Nq208, e208⟩ := hQ208
      have N209 : Fr n0 L208 := by rw [l208]; exact Fr.app N204 Nq208
      have J210 : ∀ t, Steps p.tables e below (T208.setTop (mkF m 66 #[.val (.int p1), .val (.int p2), .val (.int p3), .val (.int p4), .val (.int p5), .val (.ref b1), .val (.ref b25), .unset, .unset, .unset] [(.int p1)])) t → Steps p.tables e below (s₁.setTop (entryFrame m #[(.int p1), (.int p2), (.int p3), (.int p4), (.int p5)] maxLocals)) t := fun t k => J207 t (st208.trans k)
      have J211 : ∀ t, Steps p.tables e below (T208.setTop (mkF m 72 #[.val (.int p1), .val (.int p2), .val (.int p3), .val (.int p4), .val (.int p5), .val (.ref b1), .val (.ref b25), .unset, .unset, .unset] [(.ref b1)])) t → Steps p.tables e below (s₁.setTop (entryFrame m #[(.int p1), (.int p2), (.int p3), (.int p4), (.int p5)] maxLocals)) t := fun t k => J210 t (by
          show Steps p.tables e below (T208.setTop (mkF m 66 #[.val (.int p1), .val (.int p2), .val (.int p3), .val (.int p4), .val (.int p5), .val (.ref b1), .val (.ref b25), .unset, .unset, .unset] [(.int p1)])) _
          refine XS.iloadN X208.here hx rfl (hb hby at_66) rfl ?_
          show Steps p.tables e below (T208.setTop (mkF m 67 #[.val (.int p1), .val (.int p2), .val (.int p3), .val (.int p4), .val (.int p5), .val (.ref b1), .val (.ref b25), .unset, .unset, .unset] [(.int p1), (.int p1)])) _
          refine XS.icmpNo X208.here hx rfl (hb hby at_67) rfl (teq rfl).2 ?_
          show Steps p.tables e below (T208.setTop (mkF m 70 #[.val (.int p1), .val (.int p2), .val (.int p3), .val (.int p4), .val (.int p5), .val (.ref b1), .val (.ref b25), .unset, .unset, .unset] [])) _
          refine XS.aload X208.here hx rfl (hb hby at_70) rfl rfl ?_
          exact k)
      obtain ⟨cq212, kq212, q212a, q212b, q212c⟩ := isOf hZ e208 p203_1
      obtain ⟨_, _, ⟨T212, L212, k212, n212⟩, -, X212, ⟨Lc212, hQ212, l212, y212, z212⟩, st212⟩ := X208.virtualBack hx (y := (⟨"com/example/capwright/capwright/csv/CsvRow", "size", "()I"⟩ : MethodName)) (z := (⟨"com/example/capwright/capwright/csv/CsvRow", "size", "()I"⟩ : MethodName)) hown (mvT hZ (hw _ (List.mem_of_getElem? (i := 72) rfl))) (mvT hZ (hw _ (List.mem_of_getElem? (i := 73) rfl))) (notFace_of_selects (args := #[]) (mvT hZ (hw _ (List.mem_of_getElem? (i := 75) rfl)))) (mvT hZ (hw _ (List.mem_of_getElem? (i := 75) rfl))) (mvT hZ (hw _ (List.mem_of_getElem? (i := 74) rfl))) (by decide) (backOf (W := 0) (rm9 l Z a0 hw [] b1 (0 : Int32) T203.heap n0 Z206 p203_5) hZ (hw _ (List.mem_of_getElem? (i := 76) rfl)) (hw _ (List.mem_of_getElem? (i := 2) rfl)) (by decide) (by decide)) q212a q212c (g := (mkF m 72 #[.val (.int p1), .val (.int p2), .val (.int p3), .val (.int p4), .val (.int p5), .val (.ref b1), .val (.ref b25), .unset, .unset, .unset] [(.ref b1)])) rfl (by rw [hml]; rfl) (Steps.refl _) (argsL := []) (rest := []) (lenOf pd_27 rfl) rfl (by show 2 * 0 + _ ≤ _; exact Nat.le_of_eq rfl) (hb hby at_72) (fun _ _ => ⟨rfl, e208, (by decide : 7 + 0 ≤ _), (by decide : 322 + 0 ≤ _)⟩)
      dsimp only [Pt.U, Pt.locs, Pt.cells, Pt.slots] at X212 l212 y212 z212 st212 hQ212
      subst y212 z212
      obtain ⟨rfl, Nq212, e212⟩ := hQ212
      have N213 : Fr n0 L212 := by rw [l212]; exact Fr.app N209 Nq212
      have J214 : ∀ t, Steps p.tables e below (T212.setTop (mkF m 75 #[.val (.int p1), .val (.int p2), .val (.int p3), .val (.int p4), .val (.int p5), .val (.ref b1), .val (.ref b25), .unset, .unset, .unset] [(.int (0 : Int32))])) t → Steps p.tables e below (s₁.setTop (entryFrame m #[(.int p1), (.int p2), (.int p3), (.int p4), (.int p5)] maxLocals)) t := fun t k => J211 t (st212.trans k)
      have J215 : ∀ t, Steps p.tables e below (T212.setTop (mkF m 86 #[.val (.int p1), .val (.int p2), .val (.int p3), .val (.int p4), .val (.int p5), .val (.ref b1), .val (.ref b25), .val (.int (1 : Int32)), .unset, .unset] [(.int (1 : Int32))])) t → Steps p.tables e below (s₁.setTop (entryFrame m #[(.int p1), (.int p2), (.int p3), (.int p4), (.int p5)] maxLocals)) t := fun t k => J214 t (by
          show Steps p.tables e below (T212.setTop (mkF m 75 #[.val (.int p1), .val (.int p2), .val (.int p3), .val (.int p4), .val (.int p5), .val (.ref b1), .val (.ref b25), .unset, .unset, .unset] [(.int (0 : Int32))])) _
          refine XS.ifNo X212.here hx rfl (hb hby at_75) rfl ((if0 _ _).trans (teq (by decide)).2) ?_
          show Steps p.tables e below (T212.setTop (mkF m 78 #[.val (.int p1), .val (.int p2), .val (.int p3), .val (.int p4), .val (.int p5), .val (.ref b1), .val (.ref b25), .unset, .unset, .unset] [])) _
          refine XS.iconst X212.here hx rfl (hb hby at_78) ?_
          show Steps p.tables e below (T212.setTop (mkF m 79 #[.val (.int p1), .val (.int p2), .val (.int p3), .val (.int p4), .val (.int p5), .val (.ref b1), .val (.ref b25), .unset, .unset, .unset] [(.int (1 : Int32))])) _
          refine XS.goto X212.here hx rfl (pc0 := 79) (pc' := 83) rfl (hb hby at_79) (by decide) (by decide) ?_
          show Steps p.tables e below (T212.setTop (mkF m 83 #[.val (.int p1), .val (.int p2), .val (.int p3), .val (.int p4), .val (.int p5), .val (.ref b1), .val (.ref b25), .unset, .unset, .unset] [(.int (1 : Int32))])) _
          refine XS.istore X212.here hx rfl (hb hby at_83) rfl (l' := #[.val (.int p1), .val (.int p2), .val (.int p3), .val (.int p4), .val (.int p5), .val (.ref b1), .val (.ref b25), .val (.int (1 : Int32)), .unset, .unset]) rfl ?_
          show Steps p.tables e below (T212.setTop (mkF m 85 #[.val (.int p1), .val (.int p2), .val (.int p3), .val (.int p4), .val (.int p5), .val (.ref b1), .val (.ref b25), .val (.int (1 : Int32)), .unset, .unset] [])) _
          refine XS.iconst X212.here hx rfl (hb hby at_85) ?_
          exact k)
      have f217 := p77_7.keep K203 (ninS (Ne.symm p20_13) nin0)
      have f218 := p20_9.ext E25
      have f219 := f218.other W33 ne29
      have f220 := f219.other W38 ne29
      have f221 := f220.other W43 ne29
      have f222 : Arr Z T77.heap ea_20 ecl_20 .int := ⟨K77.2.1 _ _ f221.1 (ninS (Ne.symm p20_14) (ninS (Ne.symm p20_15) nin0)), f221.2⟩
      have f223 : Arr Z T203.heap ea_20 ecl_20 .int := ⟨K203.2.1 _ _ f222.1 (ninS (Ne.symm p20_14) nin0), f222.2⟩
      have f224 := Av43.keep K77 (ninS (Ne.symm ne27) (ninS (Ne.symm ne28) nin0))
      have f225 := f224.keep K203 (ninS (Ne.symm ne27) nin0)
      obtain ⟨T216, h216, k216, X216, e216, E216, A216, st216⟩ := newP X212 hx hZ (hw _ (List.mem_of_getElem? (i := 20) rfl)) e212 (g := (mkF m 86 #[.val (.int p1), .val (.int p2), .val (.int p3), .val (.int p4), .val (.int p5), .val (.ref b1), .val (.ref b25), .val (.int (1 : Int32)), .unset, .unset] [(.int (1 : Int32))])) rfl (hb hby at_86) rfl (by decide) (cap := 1) (by decide) (by decide) (by decide) (by decide)
      obtain ⟨b216, g216⟩ : ∃ z, z = T203.heap.size := ⟨_, rfl⟩
      rw [← g216] at A216 st216
      obtain ⟨cl216, hcl216⟩ : ∃ z, z = newA k216 .char (1 : Int32) := ⟨_, rfl⟩
      have Aw216 : Arr Z h216 b216 cl216 .char := by rw [hcl216]; exact A216
      have J226 : ∀ t, Steps p.tables e below (T216.setTop (mkF m 88 #[.val (.int p1), .val (.int p2), .val (.int p3), .val (.int p4), .val (.int p5), .val (.ref b1), .val (.ref b25), .val (.int (1 : Int32)), .unset, .unset] [(.ref b216)])) t → Steps p.tables e below (s₁.setTop (entryFrame m #[(.int p1), (.int p2), (.int p3), (.int p4), (.int p5)] maxLocals)) t := fun t k => J215 t (st216 t k)
      have ne227 : b1 ≠ b216 := Nat.ne_of_lt (Nat.lt_of_lt_of_le p203_1.lt (Nat.le_of_eq g216.symm))
      have ne228 : ca_20 ≠ b216 := Nat.ne_of_lt (Nat.lt_of_lt_of_le f217.lt (Nat.le_of_eq g216.symm))
      have ne229 : ea_20 ≠ b216 := Nat.ne_of_lt (Nat.lt_of_lt_of_le f223.lt (Nat.le_of_eq g216.symm))
      have ne230 : b25 ≠ b216 := Nat.ne_of_lt (Nat.lt_of_lt_of_le f225.lt (Nat.le_of_eq g216.symm))
      have ge231 : n0 ≤ b216 := Nat.le_trans Z206 (Nat.le_of_eq g216.symm)
      have Z232 : n0 ≤ h216.size := Nat.le_trans Z206 E216.1
      have kz := Nat.le_trans kz E216.1
      have hS216 : cl216.slots.size = (1 : Int32).toNatClampNeg := by rw [hcl216, sz_new]
      have hG216 := own_G_new hcl216
      have J233 : ∀ t, Steps p.tables e below (T216.setTop (mkF m 92 #[.val (.int p1), .val (.int p2), .val (.int p3), .val (.int p4), .val (.int p5), .val (.ref b1), .val (.ref b25), .val (.int (1 : Int32)), .unset, .unset] [(.int (p4.toUInt32.toUInt16.toUInt32.toInt32)), (.int (0 : Int32)), (.ref b216), (.ref b216)])) t → Steps p.tables e below (s₁.setTop (entryFrame m #[(.int p1), (.int p2), (.int p3), (.int p4), (.int p5)] maxLocals)) t := fun t k => J226 t (by
          show Steps p.tables e below (T216.setTop (mkF m 88 #[.val (.int p1), .val (.int p2), .val (.int p3), .val (.int p4), .val (.int p5), .val (.ref b1), .val (.ref b25), .val (.int (1 : Int32)), .unset, .unset] [(.ref b216)])) _
          refine XS.dup X216.here hx rfl (hb hby at_88) rfl rfl ?_
          show Steps p.tables e below (T216.setTop (mkF m 89 #[.val (.int p1), .val (.int p2), .val (.int p3), .val (.int p4), .val (.int p5), .val (.ref b1), .val (.ref b25), .val (.int (1 : Int32)), .unset, .unset] [(.ref b216), (.ref b216)])) _
          refine XS.iconst X216.here hx rfl (hb hby at_89) ?_
          show Steps p.tables e below (T216.setTop (mkF m 90 #[.val (.int p1), .val (.int p2), .val (.int p3), .val (.int p4), .val (.int p5), .val (.ref b1), .val (.ref b25), .val (.int (1 : Int32)), .unset, .unset] [(.int (0 : Int32)), (.ref b216), (.ref b216)])) _
          refine XS.iloadN X216.here hx rfl (hb hby at_90) rfl ?_
          show Steps p.tables e below (T216.setTop (mkF m 91 #[.val (.int p1), .val (.int p2), .val (.int p3), .val (.int p4), .val (.int p5), .val (.ref b1), .val (.ref b25), .val (.int (1 : Int32)), .unset, .unset] [(.int p4), (.int (0 : Int32)), (.ref b216), (.ref b216)])) _
          refine XS.i2c X216.here hx rfl (hb hby at_91) rfl ?_
          exact k)
      have J234 : ∀ t, Steps p.tables e below (T216.setTop (mkF m 92 #[.val (.int p1), .val (.int p2), .val (.int p3), .val (.int p4), .val (.int p5), .val (.ref b1), .val (.ref b25), .val (.int (1 : Int32)), .unset, .unset] [(.int ch), (.int (0 : Int32)), (.ref b216), (.ref b216)])) t → Steps p.tables e below (s₁.setTop (entryFrame m #[(.int p1), (.int p2), (.int p3), (.int p4), (.int p5)] maxLocals)) t := fun t k => J233 t (by rw [hch0] at k; exact k)
      obtain ⟨T235, h235, X235, e235, W235, st235⟩ := stC X216 hx hZ e216 Aw216 (j := (0 : Int32)) (own_in hS216 (by decide) (by decide)) (g := (mkF m 92 #[.val (.int p1), .val (.int p2), .val (.int p3), .val (.int p4), .val (.int p5), .val (.ref b1), .val (.ref b25), .val (.int (1 : Int32)), .unset, .unset] [(.int ch), (.int (0 : Int32)), (.ref b216), (.ref b216)])) rfl rfl (hb hby at_92)
      have J236 : ∀ t, Steps p.tables e below (T235.setTop (mkF m 93 #[.val (.int p1), .val (.int p2), .val (.int p3), .val (.int p4), .val (.int p5), .val (.ref b1), .val (.ref b25), .val (.int (1 : Int32)), .unset, .unset] [(.ref b216)])) t → Steps p.tables e below (s₁.setTop (entryFrame m #[(.int p1), (.int p2), (.int p3), (.int p4), (.int p5)] maxLocals)) t := fun t k => J234 t (st235 t k)
      have Z237 : n0 ≤ h235.size := Nat.le_trans Z232 (Keep.of_wr W235).1
      have kz := Nat.le_trans kz (Keep.of_wr W235).1
      have N238 := Fr.snoc X235 N213 ge231
      obtain ⟨cl235, hcl235⟩ : ∃ z, z = cl216.setSlot ((0 : Int32)).toNatClampNeg (.int (nar .char ch)) := ⟨_, rfl⟩
      have Aw235 : Arr Z h235 b216 cl235 .char := by rw [hcl235]; exact Aw216.same W235
      have hS235 := own_ssz hcl235 hS216
      have hG235 := own_G_set hG216 hcl235 (fits_nar_char _)
      have hv235 : cl235.slots[0]? = some (.int ch) := (own_same hcl235 (by decide) (by rw [hS216]; decide)).trans (by rw [own_nch hch])
      have Av235 := own_arv (dv := .int 0) Aw235 hS235 (by decide) hG235
      have J239 : ∀ t, Steps p.tables e below (T235.setTop (mkF m 101 #[.val (.int p1), .val (.int p2), .val (.int p3), .val (.int p4), .val (.int p5), .val (.ref b1), .val (.ref b25), .val (.int (1 : Int32)), .val (.ref b216), .unset] [(.int (1 : Int32)), (.int (0 : Int32)), (.ref b216), (.ref b1)])) t → Steps p.tables e below (s₁.setTop (entryFrame m #[(.int p1), (.int p2), (.int p3), (.int p4), (.int p5)] maxLocals)) t := fun t k => J236 t (by
          show Steps p.tables e below (T235.setTop (mkF m 93 #[.val (.int p1), .val (.int p2), .val (.int p3), .val (.int p4), .val (.int p5), .val (.ref b1), .val (.ref b25), .val (.int (1 : Int32)), .unset, .unset] [(.ref b216)])) _
          refine XS.astore X235.here hx rfl (hb hby at_93) rfl rfl (l' := #[.val (.int p1), .val (.int p2), .val (.int p3), .val (.int p4), .val (.int p5), .val (.ref b1), .val (.ref b25), .val (.int (1 : Int32)), .val (.ref b216), .unset]) rfl ?_
          show Steps p.tables e below (T235.setTop (mkF m 95 #[.val (.int p1), .val (.int p2), .val (.int p3), .val (.int p4), .val (.int p5), .val (.ref b1), .val (.ref b25), .val (.int (1 : Int32)), .val (.ref b216), .unset] [])) _
          refine XS.aload X235.here hx rfl (hb hby at_95) rfl rfl ?_
          show Steps p.tables e below (T235.setTop (mkF m 97 #[.val (.int p1), .val (.int p2), .val (.int p3), .val (.int p4), .val (.int p5), .val (.ref b1), .val (.ref b25), .val (.int (1 : Int32)), .val (.ref b216), .unset] [(.ref b1)])) _
          refine XS.aload X235.here hx rfl (hb hby at_97) rfl rfl ?_
          show Steps p.tables e below (T235.setTop (mkF m 99 #[.val (.int p1), .val (.int p2), .val (.int p3), .val (.int p4), .val (.int p5), .val (.ref b1), .val (.ref b25), .val (.int (1 : Int32)), .val (.ref b216), .unset] [(.ref b216), (.ref b1)])) _
          refine XS.iconst X235.here hx rfl (hb hby at_99) ?_
          show Steps p.tables e below (T235.setTop (mkF m 100 #[.val (.int p1), .val (.int p2), .val (.int p3), .val (.int p4), .val (.int p5), .val (.ref b1), .val (.ref b25), .val (.int (1 : Int32)), .val (.ref b216), .unset] [(.int (0 : Int32)), (.ref b216), (.ref b1)])) _
          refine XS.iconst X235.here hx rfl (hb hby at_100) ?_
          exact k)
      have f240 := p203_1.ext E216
      have f241 := f240.wr W235
      have f242 := p203_2.ext E216
      have f243 := f242.other W235 (Or.inl ne227)
      have f244 := p203_6.ext E216
      have f245 := f244.other W235 (Or.inl ne227)
      have f246 := f217.ext E216
      have f247 := f246.other W235 ne228
      have f248 := p203_4.ext E216
      have f249 := f248.other W235 (Or.inl ne227)
      have f250 := p203_3.ext E216
      have f251 := f250.other W235 (Or.inl ne227)
      have f252 := p203_5.ext E216
      have f253 := f252.other W235 (Or.inl ne227)
      obtain ⟨cq254, kq254, q254a, q254b, q254c⟩ := isOf hZ e235 f241
      obtain ⟨_, _, ⟨T254, L254, k254, n254⟩, -, X254, ⟨Lc254, hQ254, l254, y254, z254⟩, st254⟩ := X235.virtualBack hx (y := (⟨"com/example/capwright/capwright/csv/CsvRow", "append", "([CII)V"⟩ : MethodName)) (z := (⟨"com/example/capwright/capwright/csv/CsvRow", "append", "([CII)V"⟩ : MethodName)) hown (mvT hZ (hw _ (List.mem_of_getElem? (i := 53) rfl))) (mvT hZ (hw _ (List.mem_of_getElem? (i := 54) rfl))) (notFace_of_selects (args := #[]) (mvT hZ (hw _ (List.mem_of_getElem? (i := 56) rfl)))) (mvT hZ (hw _ (List.mem_of_getElem? (i := 56) rfl))) (mvT hZ (hw _ (List.mem_of_getElem? (i := 55) rfl))) (by decide) (backOf (W := 0) (rm6 l Z a0 hw [] b1 b216 ca_20 (1 : Int32) _ (1 : Int32) _ _ _ (.int p1) (.ref ea_20) (.int (0 : Int32)) h235 n0 Z237 f241 ge3 p20_8 f243 f245 Av235 f247 (by decide) (by decide) (Nat.le_refl _) (by decide) p77_8 p20_13 (Ne.symm ne228) ne227 f249 f251 f253) hZ (hw _ (List.mem_of_getElem? (i := 57) rfl)) (hw _ (List.mem_of_getElem? (i := 2) rfl)) (by decide) (by decide)) q254a q254c (g := (mkF m 101 #[.val (.int p1), .val (.int p2), .val (.int p3), .val (.int p4), .val (.int p5), .val (.ref b1), .val (.ref b25), .val (.int (1 : Int32)), .val (.ref b216), .unset] [(.int (1 : Int32)), (.int (0 : Int32)), (.ref b216), (.ref b1)])) rfl (by rw [hml]; rfl) (Steps.refl _) (argsL := [(.ref b216), (.int (0 : Int32)), (.int (1 : Int32))]) (rest := []) (lenOf pd_19 rfl) rfl (by show 2 * 0 + _ ≤ _; exact Nat.le_of_eq rfl) (hb hby at_101) (fun _ _ => ⟨rfl, e235, (by decide : 8 + 0 ≤ _), (by decide : 323 + 0 ≤ _)⟩)
      dsimp only [Pt.U, Pt.locs, Pt.cells, Pt.slots] at X254 l254 y254 z254 st254 hQ254
      subst y254 z254
      obtain ⟨vd'_254, rfl, Nq254, K254, p254_1, p254_2, p254_3, p254_4, p254_5, p254_6, p254_7, p254_8, p254_9⟩ := hQ254
      have N255 : Fr n0 L254 := by rw [l254]; exact Fr.app N238 Nq254
      have J256 : ∀ t, Steps p.tables e below (T254.setTop (mkF m 104 #[.val (.int p1), .val (.int p2), .val (.int p3), .val (.int p4), .val (.int p5), .val (.ref b1), .val (.ref b25), .val (.int (1 : Int32)), .val (.ref b216), .unset] [])) t → Steps p.tables e below (s₁.setTop (entryFrame m #[(.int p1), (.int p2), (.int p3), (.int p4), (.int p5)] maxLocals)) t := fun t k => J239 t (st254.trans k)
      have Z257 : n0 ≤ T254.heap.size := Nat.le_trans Z237 K254.1
      have kz := Nat.le_trans kz K254.1
      have J258 : ∀ t, Steps p.tables e below (T254.setTop (mkF m 106 #[.val (.int p1), .val (.int p2), .val (.int p3), .val (.int p4), .val (.int p5), .val (.ref b1), .val (.ref b25), .val (.int (1 : Int32)), .val (.ref b216), .unset] [(.ref b1)])) t → Steps p.tables e below (s₁.setTop (entryFrame m #[(.int p1), (.int p2), (.int p3), (.int p4), (.int p5)] maxLocals)) t := fun t k => J256 t (by
          show Steps p.tables e below (T254.setTop (mkF m 104 #[.val (.int p1), .val (.int p2), .val (.int p3), .val (.int p4), .val (.int p5), .val (.ref b1), .val (.ref b25), .val (.int (1 : Int32)), .val (.ref b216), .unset] [])) _
          refine XS.aload X254.here hx rfl (hb hby at_104) rfl rfl ?_
          exact k)
      have f259 := f223.ext E216
      have f260 := f259.other W235 ne229
      have f261 : Arr Z T254.heap ea_20 ecl_20 .int := ⟨K254.2.1 _ _ f260.1 (ninS (Ne.symm p20_14) (ninS (Ne.symm p20_15) nin0)), f260.2⟩
      obtain ⟨cq262, kq262, q262a, q262b, q262c⟩ := isOf hZ rfl p254_1
      obtain ⟨_, _, ⟨T262, L262, k262, n262⟩, -, X262, ⟨Lc262, hQ262, l262, y262, z262⟩, st262⟩ := X254.virtualBack hx (y := (⟨"com/example/capwright/capwright/csv/CsvRow", "endField", "()V"⟩ : MethodName)) (z := (⟨"com/example/capwright/capwright/csv/CsvRow", "endField", "()V"⟩ : MethodName)) hown (mvT hZ (hw _ (List.mem_of_getElem? (i := 77) rfl))) (mvT hZ (hw _ (List.mem_of_getElem? (i := 78) rfl))) (notFace_of_selects (args := #[]) (mvT hZ (hw _ (List.mem_of_getElem? (i := 80) rfl)))) (mvT hZ (hw _ (List.mem_of_getElem? (i := 80) rfl))) (mvT hZ (hw _ (List.mem_of_getElem? (i := 79) rfl))) (by decide) (backOf (W := 0) (rm10 l Z a0 hw [] b1 ea_20 ecl_20 (1 : Int32) (.ref ca_20) (.int p1) T254.heap n0 Z257 p254_1 ge3 p254_2 p254_3 p254_4 p254_5 p254_6 f261 p20_10 p20_12 p20_14) hZ (hw _ (List.mem_of_getElem? (i := 81) rfl)) (hw _ (List.mem_of_getElem? (i := 2) rfl)) (by decide) (by decide)) q262a q262c (g := (mkF m 106 #[.val (.int p1), .val (.int p2), .val (.int p3), .val (.int p4), .val (.int p5), .val (.ref b1), .val (.ref b25), .val (.int (1 : Int32)), .val (.ref b216), .unset] [(.ref b1)])) rfl (by rw [hml]; rfl) (Steps.refl _) (argsL := []) (rest := []) (lenOf pd_3 rfl) rfl (by show 2 * 0 + _ ≤ _; exact Nat.le_of_eq rfl) (hb hby at_106) (fun _ _ => ⟨rfl, rfl, (by decide : 8 + 0 ≤ _), (by decide : 323 + 0 ≤ _)⟩)
      dsimp only [Pt.U, Pt.locs, Pt.cells, Pt.slots] at X262 l262 y262 z262 st262 hQ262
      subst y262 z262
      obtain ⟨ecl'_262, rfl, Nq262, K262, p262_1, p262_2, p262_3, p262_4, p262_5, p262_6, p262_7, p262_8, p262_9⟩ := hQ262
      have N263 : Fr n0 L262 := by rw [l262]; exact Fr.app N255 Nq262
      have J264 : ∀ t, Steps p.tables e below (T262.setTop (mkF m 109 #[.val (.int p1), .val (.int p2), .val (.int p3), .val (.int p4), .val (.int p5), .val (.ref b1), .val (.ref b25), .val (.int (1 : Int32)), .val (.ref b216), .unset] [])) t → Steps p.tables e below (s₁.setTop (entryFrame m #[(.int p1), (.int p2), (.int p3), (.int p4), (.int p5)] maxLocals)) t := fun t k => J258 t (st262.trans k)
      have Z265 : n0 ≤ T262.heap.size := Nat.le_trans Z257 K262.1
      have kz := Nat.le_trans kz K262.1
      have J266 : ∀ t, Steps p.tables e below (T262.setTop (mkF m 111 #[.val (.int p1), .val (.int p2), .val (.int p3), .val (.int p4), .val (.int p5), .val (.ref b1), .val (.ref b25), .val (.int (1 : Int32)), .val (.ref b216), .unset] [(.ref b1)])) t → Steps p.tables e below (s₁.setTop (entryFrame m #[(.int p1), (.int p2), (.int p3), (.int p4), (.int p5)] maxLocals)) t := fun t k => J264 t (by
          show Steps p.tables e below (T262.setTop (mkF m 109 #[.val (.int p1), .val (.int p2), .val (.int p3), .val (.int p4), .val (.int p5), .val (.ref b1), .val (.ref b25), .val (.int (1 : Int32)), .val (.ref b216), .unset] [])) _
          refine XS.aload X262.here hx rfl (hb hby at_109) rfl rfl ?_
          exact k)
      have f268 := p254_7.keep K262 (ninS (Ne.symm p20_13) (ninS p20_15 nin0))
      obtain ⟨cc267, Ac267, qk267, Sc267, hz267, Hc267, Gc267⟩ := id f268
      have hcz267 : cc267.slots.size = 256 := Sc267.trans (by decide)
      have hc0267 : cc267.slots[0]? = some (.int ch) := own_has0 Hc267 (by rw [hcz267]; decide) ((p254_9 rfl).trans (own_getD hv235))
      have f269 := f11.keep K20 (allS ge3 all0)
      have f270 := f269.ext E25
      have f271 := f270.wr W33 ge30
      have f272 := f271.wr W38 ge30
      have f273 := f272.wr W43 ge30
      have f274 := f273.keep K77 (allS ge3 (allS p20_8 all0))
      have f275 := f274.keep K203 (allS ge3 all0)
      have f276 := f275.ext E216
      have f277 := f276.wr W235 ge231
      have f278 := f277.keep K254 (allS ge3 (allS p20_8 all0))
      have f279 := f278.keep K262 (allS ge3 (allS p20_10 all0))
      obtain ⟨cq280, kq280, q280a, q280b, q280c⟩ := isOf hZ rfl p262_1
      obtain ⟨_, _, ⟨T280, L280, k280, n280⟩, -, X280, ⟨Lc280, hQ280, l280, y280, z280⟩, st280⟩ := X262.virtualBack hx (y := (⟨"com/example/capwright/capwright/csv/CsvRow", "fields", "()Ljava/util/List;"⟩ : MethodName)) (z := (⟨"com/example/capwright/capwright/csv/CsvRow", "fields", "()Ljava/util/List;"⟩ : MethodName)) hown (mvT hZ (hw _ (List.mem_of_getElem? (i := 82) rfl))) (mvT hZ (hw _ (List.mem_of_getElem? (i := 83) rfl))) (notFace_of_selects (args := #[]) (mvT hZ (hw _ (List.mem_of_getElem? (i := 85) rfl)))) (mvT hZ (hw _ (List.mem_of_getElem? (i := 85) rfl))) (mvT hZ (hw _ (List.mem_of_getElem? (i := 84) rfl))) (by decide) (backOf (W := 0) (rm11L l Z a0 hw [] b1 ca_20 cc267 ch ea_20 ecl'_262 cs fm T262.heap n0 Z265 p262_1 p262_5 p262_2 p262_4 Ac267 hcz267 hc0267 p262_7 p262_8 p262_9 hk f279 Zc (by assumption) Zf (by assumption)) hZ (hw _ (List.mem_of_getElem? (i := 86) rfl)) (hw _ (List.mem_of_getElem? (i := 2) rfl)) (by decide) (by decide)) q280a q280c (g := (mkF m 111 #[.val (.int p1), .val (.int p2), .val (.int p3), .val (.int p4), .val (.int p5), .val (.ref b1), .val (.ref b25), .val (.int (1 : Int32)), .val (.ref b216), .unset] [(.ref b1)])) rfl (by rw [hml]; rfl) (Steps.refl _) (argsL := []) (rest := []) (lenOf pd_28 rfl) rfl (by show 2 * 0 + _ ≤ _; exact Nat.le_of_eq rfl) (hb hby at_111) (fun _ _ => ⟨rfl, rfl, (by decide : 8 + 4 ≤ _), (by decide : 323 + 9 ≤ _)⟩)
      dsimp only [Pt.U, Pt.locs, Pt.cells, Pt.slots] at X280 l280 y280 z280 st280 hQ280
      subst y280 z280
      obtain ⟨lst_280, el_280, lcl_280, st_280, ba_280, bcl_280, rfl, Nq280, K280, p280_1, p280_2, p280_3, p280_4, p280_5, p280_6, p280_7, p280_8, p280_9, p280_10, p280_11, p280_12⟩ := hQ280
      have N281 : Fr n0 L280 := by rw [l280]; exact Fr.app N263 Nq280
      have J282 : ∀ t, Steps p.tables e below (T280.setTop (mkF m 114 #[.val (.int p1), .val (.int p2), .val (.int p3), .val (.int p4), .val (.int p5), .val (.ref b1), .val (.ref b25), .val (.int (1 : Int32)), .val (.ref b216), .unset] [(.ref lst_280)])) t → Steps p.tables e below (s₁.setTop (entryFrame m #[(.int p1), (.int p2), (.int p3), (.int p4), (.int p5)] maxLocals)) t := fun t k => J266 t (st280.trans k)
      have Z283 : n0 ≤ T280.heap.size := Nat.le_trans Z265 K280.1
      have kz := Nat.le_trans kz K280.1
      have J284 : ∀ t, Steps p.tables e below (T280.setTop (mkF m 123 #[.val (.int p1), .val (.int p2), .val (.int p3), .val (.int p4), .val (.int p5), .val (.ref b1), .val (.ref b25), .val (.int (1 : Int32)), .val (.ref b216), .val (.ref lst_280)] [(.ref lst_280)])) t → Steps p.tables e below (s₁.setTop (entryFrame m #[(.int p1), (.int p2), (.int p3), (.int p4), (.int p5)] maxLocals)) t := fun t k => J282 t (by
          show Steps p.tables e below (T280.setTop (mkF m 114 #[.val (.int p1), .val (.int p2), .val (.int p3), .val (.int p4), .val (.int p5), .val (.ref b1), .val (.ref b25), .val (.int (1 : Int32)), .val (.ref b216), .unset] [(.ref lst_280)])) _
          refine XS.astore X280.here hx rfl (hb hby at_114) rfl rfl (l' := #[.val (.int p1), .val (.int p2), .val (.int p3), .val (.int p4), .val (.int p5), .val (.ref b1), .val (.ref b25), .val (.int (1 : Int32)), .val (.ref b216), .val (.ref lst_280)]) rfl ?_
          show Steps p.tables e below (T280.setTop (mkF m 116 #[.val (.int p1), .val (.int p2), .val (.int p3), .val (.int p4), .val (.int p5), .val (.ref b1), .val (.ref b25), .val (.int (1 : Int32)), .val (.ref b216), .val (.ref lst_280)] [])) _
          refine XS.iload X280.here hx rfl (hb hby at_116) rfl ?_
          show Steps p.tables e below (T280.setTop (mkF m 118 #[.val (.int p1), .val (.int p2), .val (.int p3), .val (.int p4), .val (.int p5), .val (.ref b1), .val (.ref b25), .val (.int (1 : Int32)), .val (.ref b216), .val (.ref lst_280)] [(.int (1 : Int32))])) _
          refine XS.ifNo X280.here hx rfl (hb hby at_118) rfl ((if0 _ _).trans (feq (by decide)).1) ?_
          show Steps p.tables e below (T280.setTop (mkF m 121 #[.val (.int p1), .val (.int p2), .val (.int p3), .val (.int p4), .val (.int p5), .val (.ref b1), .val (.ref b25), .val (.int (1 : Int32)), .val (.ref b216), .val (.ref lst_280)] [])) _
          refine XS.aload X280.here hx rfl (hb hby at_121) rfl rfl ?_
          exact k)
      obtain ⟨cq285, kq285, q285a, q285b, q285c⟩ := isOf hZ rfl p280_1
      obtain ⟨_, _, ⟨T285, L285, k285, n285⟩, -, X285, ⟨Lc285, hQ285, l285, y285, z285⟩, st285⟩ := X280.interfaceBack hx (xi := (⟨"java/util/List", "size", "()I"⟩ : MethodName)) (y := (⟨"java/util/ArrayList", "size", "()I"⟩ : MethodName)) hown (mvT hZ (hw _ (List.mem_of_getElem? (i := 164) rfl))) (mvT hZ (hw _ (List.mem_of_getElem? (i := 165) rfl))) (mvT hZ (hw _ (List.mem_of_getElem? (i := 166) rfl))) (mvT hZ (hw _ (List.mem_of_getElem? (i := 167) rfl))) (mvT hZ (hw _ (List.mem_of_getElem? (i := 168) rfl))) (mvT hZ (hw _ (List.mem_of_getElem? (i := 169) rfl))) (mvT hZ (hw _ (List.mem_of_getElem? (i := 170) rfl))) (mvT hZ (hw _ (List.mem_of_getElem? (i := 152) rfl))) (by decide) (backOf (W := 0) (rm25 l Z a0 hw [] lst_280 (1 : Int32) T280.heap n0 Z283 p280_2) hZ (hw _ (List.mem_of_getElem? (i := 171) rfl)) (hw _ (List.mem_of_getElem? (i := 89) rfl)) (by decide) (by decide)) q285a q285b q285c (g := (mkF m 123 #[.val (.int p1), .val (.int p2), .val (.int p3), .val (.int p4), .val (.int p5), .val (.ref b1), .val (.ref b25), .val (.int (1 : Int32)), .val (.ref b216), .val (.ref lst_280)] [(.ref lst_280)])) rfl (by rw [hml]; rfl) (Steps.refl _) (argsL := []) (rest := []) (lenOf pd_27 rfl) rfl (by show 2 * 0 + _ ≤ _; exact Nat.le_of_eq rfl) (hb hby at_123) (fun _ _ => ⟨rfl, rfl, (by decide : 12 + 0 ≤ _), (by decide : 332 + 0 ≤ _)⟩)
      dsimp only [Pt.U, Pt.locs, Pt.cells, Pt.slots] at X285 l285 y285 z285 st285 hQ285
      subst y285 z285
      obtain ⟨rfl, Nq285, e285⟩ := hQ285
      have N286 : Fr n0 L285 := by rw [l285]; exact Fr.app N281 Nq285
      have J287 : ∀ t, Steps p.tables e below (T285.setTop (mkF m 128 #[.val (.int p1), .val (.int p2), .val (.int p3), .val (.int p4), .val (.int p5), .val (.ref b1), .val (.ref b25), .val (.int (1 : Int32)), .val (.ref b216), .val (.ref lst_280)] [(.int (1 : Int32))])) t → Steps p.tables e below (s₁.setTop (entryFrame m #[(.int p1), (.int p2), (.int p3), (.int p4), (.int p5)] maxLocals)) t := fun t k => J284 t (st285.trans k)
      have J288 : ∀ t, Steps p.tables e below (T285.setTop (mkF m 135 #[.val (.int p1), .val (.int p2), .val (.int p3), .val (.int p4), .val (.int p5), .val (.ref b1), .val (.ref b25), .val (.int (1 : Int32)), .val (.ref b216), .val (.ref lst_280)] [(.int (0 : Int32)), (.ref lst_280)])) t → Steps p.tables e below (s₁.setTop (entryFrame m #[(.int p1), (.int p2), (.int p3), (.int p4), (.int p5)] maxLocals)) t := fun t k => J287 t (by
          show Steps p.tables e below (T285.setTop (mkF m 128 #[.val (.int p1), .val (.int p2), .val (.int p3), .val (.int p4), .val (.int p5), .val (.ref b1), .val (.ref b25), .val (.int (1 : Int32)), .val (.ref b216), .val (.ref lst_280)] [(.int (1 : Int32))])) _
          refine XS.iconst X285.here hx rfl (hb hby at_128) ?_
          show Steps p.tables e below (T285.setTop (mkF m 129 #[.val (.int p1), .val (.int p2), .val (.int p3), .val (.int p4), .val (.int p5), .val (.ref b1), .val (.ref b25), .val (.int (1 : Int32)), .val (.ref b216), .val (.ref lst_280)] [(.int (1 : Int32)), (.int (1 : Int32))])) _
          refine XS.icmpNo X285.here hx rfl (hb hby at_129) rfl (teq rfl).2 ?_
          show Steps p.tables e below (T285.setTop (mkF m 132 #[.val (.int p1), .val (.int p2), .val (.int p3), .val (.int p4), .val (.int p5), .val (.ref b1), .val (.ref b25), .val (.int (1 : Int32)), .val (.ref b216), .val (.ref lst_280)] [])) _
          refine XS.aload X285.here hx rfl (hb hby at_132) rfl rfl ?_
          show Steps p.tables e below (T285.setTop (mkF m 134 #[.val (.int p1), .val (.int p2), .val (.int p3), .val (.int p4), .val (.int p5), .val (.ref b1), .val (.ref b25), .val (.int (1 : Int32)), .val (.ref b216), .val (.ref lst_280)] [(.ref lst_280)])) _
          refine XS.iconst X285.here hx rfl (hb hby at_134) ?_
          exact k)
      obtain ⟨cq289, kq289, q289a, q289b, q289c⟩ := isOf hZ e285 p280_1
      obtain ⟨_, _, ⟨T289, L289, k289, n289⟩, -, X289, ⟨Lc289, hQ289, l289, y289, z289⟩, st289⟩ := X285.interfaceBack hx (xi := (⟨"java/util/List", "get", "(I)Ljava/lang/Object;"⟩ : MethodName)) (y := (⟨"java/util/ArrayList", "get", "(I)Ljava/lang/Object;"⟩ : MethodName)) hown (mvT hZ (hw _ (List.mem_of_getElem? (i := 172) rfl))) (mvT hZ (hw _ (List.mem_of_getElem? (i := 173) rfl))) (mvT hZ (hw _ (List.mem_of_getElem? (i := 174) rfl))) (mvT hZ (hw _ (List.mem_of_getElem? (i := 175) rfl))) (mvT hZ (hw _ (List.mem_of_getElem? (i := 176) rfl))) (mvT hZ (hw _ (List.mem_of_getElem? (i := 177) rfl))) (mvT hZ (hw _ (List.mem_of_getElem? (i := 178) rfl))) (mvT hZ (hw _ (List.mem_of_getElem? (i := 152) rfl))) (by decide) (backOf (W := 0) (rm26 l Z a0 hw [] lst_280 st_280 el_280 lcl_280 T280.heap n0 Z283 p280_1 p280_4 p280_5 p280_6 p280_3 p280_2) hZ (hw _ (List.mem_of_getElem? (i := 179) rfl)) (hw _ (List.mem_of_getElem? (i := 89) rfl)) (by decide) (by decide)) q289a q289b q289c (g := (mkF m 135 #[.val (.int p1), .val (.int p2), .val (.int p3), .val (.int p4), .val (.int p5), .val (.ref b1), .val (.ref b25), .val (.int (1 : Int32)), .val (.ref b216), .val (.ref lst_280)] [(.int (0 : Int32)), (.ref lst_280)])) rfl (by rw [hml]; rfl) (Steps.refl _) (argsL := [(.int (0 : Int32))]) (rest := []) (lenOf pd_7 rfl) rfl (by show 2 * 0 + _ ≤ _; exact Nat.le_of_eq rfl) (hb hby at_135) (fun _ _ => ⟨rfl, e285, (by decide : 12 + 0 ≤ _), (by decide : 332 + 0 ≤ _)⟩)
      dsimp only [Pt.U, Pt.locs, Pt.cells, Pt.slots] at X289 l289 y289 z289 st289 hQ289
      subst y289 z289
      obtain ⟨rfl, Nq289, e289⟩ := hQ289
      have N290 : Fr n0 L289 := by rw [l289]; exact Fr.app N286 Nq289
      have J291 : ∀ t, Steps p.tables e below (T289.setTop (mkF m 140 #[.val (.int p1), .val (.int p2), .val (.int p3), .val (.int p4), .val (.int p5), .val (.ref b1), .val (.ref b25), .val (.int (1 : Int32)), .val (.ref b216), .val (.ref lst_280)] [(.ref st_280)])) t → Steps p.tables e below (s₁.setTop (entryFrame m #[(.int p1), (.int p2), (.int p3), (.int p4), (.int p5)] maxLocals)) t := fun t k => J288 t (st289.trans k)
      obtain ⟨T292, X292, e292, st292⟩ := castY X289 hx hZ hown (hw _ (List.mem_of_getElem? (i := 192) rfl)) e289 (Ins.self p280_7) (g := (mkF m 140 #[.val (.int p1), .val (.int p2), .val (.int p3), .val (.int p4), .val (.int p5), .val (.ref b1), .val (.ref b25), .val (.int (1 : Int32)), .val (.ref b216), .val (.ref lst_280)] [(.ref st_280)])) rfl rfl (hb hby at_140)
      have J293 : ∀ t, Steps p.tables e below (T292.setTop (mkF m 143 #[.val (.int p1), .val (.int p2), .val (.int p3), .val (.int p4), .val (.int p5), .val (.ref b1), .val (.ref b25), .val (.int (1 : Int32)), .val (.ref b216), .val (.ref lst_280)] [(.ref st_280)])) t → Steps p.tables e below (s₁.setTop (entryFrame m #[(.int p1), (.int p2), (.int p3), (.int p4), (.int p5)] maxLocals)) t := fun t k => J291 t (st292 t k)
      have J294 : ∀ t, Steps p.tables e below (T292.setTop (mkF m 145 #[.val (.int p1), .val (.int p2), .val (.int p3), .val (.int p4), .val (.int p5), .val (.ref b1), .val (.ref b25), .val (.int (1 : Int32)), .val (.ref b216), .val (.ref lst_280)] [(.int (p4.toUInt32.toUInt16.toUInt32.toInt32)), (.ref st_280)])) t → Steps p.tables e below (s₁.setTop (entryFrame m #[(.int p1), (.int p2), (.int p3), (.int p4), (.int p5)] maxLocals)) t := fun t k => J293 t (by
          show Steps p.tables e below (T292.setTop (mkF m 143 #[.val (.int p1), .val (.int p2), .val (.int p3), .val (.int p4), .val (.int p5), .val (.ref b1), .val (.ref b25), .val (.int (1 : Int32)), .val (.ref b216), .val (.ref lst_280)] [(.ref st_280)])) _
          refine XS.iloadN X292.here hx rfl (hb hby at_143) rfl ?_
          show Steps p.tables e below (T292.setTop (mkF m 144 #[.val (.int p1), .val (.int p2), .val (.int p3), .val (.int p4), .val (.int p5), .val (.ref b1), .val (.ref b25), .val (.int (1 : Int32)), .val (.ref b216), .val (.ref lst_280)] [(.int p4), (.ref st_280)])) _
          refine XS.i2c X292.here hx rfl (hb hby at_144) rfl ?_
          exact k)
      have J295 : ∀ t, Steps p.tables e below (T292.setTop (mkF m 145 #[.val (.int p1), .val (.int p2), .val (.int p3), .val (.int p4), .val (.int p5), .val (.ref b1), .val (.ref b25), .val (.int (1 : Int32)), .val (.ref b216), .val (.ref lst_280)] [(.int ch), (.ref st_280)])) t → Steps p.tables e below (s₁.setTop (entryFrame m #[(.int p1), (.int p2), (.int p3), (.int p4), (.int p5)] maxLocals)) t := fun t k => J294 t (by rw [hch0] at k; exact k)
      have f296 := p262_1.keep K280
      have f297 := f268.keep K280 nin0
      have f298 : Arr Z T280.heap ea_20 ecl'_262 .int := ⟨K280.2.1 _ _ p262_7.1 nin0, p262_7.2⟩
      have f299 := f225.ext E216
      have f300 := f299.other W235 ne230
      have f301 := f300.keep K254 (ninS (Ne.symm ne27) (ninS (Ne.symm ne28) nin0))
      have f302 := f301.keep K262 (ninS (Ne.symm ne27) (ninS (Ne.symm ne29) nin0))
      have f303 := f302.keep K280 nin0
      have f304 := Av235.keep K254 (ninS (Ne.symm ne227) (ninS (Ne.symm ne228) nin0))
      have f305 := f304.keep K262 (ninS (Ne.symm ne227) (ninS (Ne.symm ne229) nin0))
      have f306 := f305.keep K280 nin0
      have f307 := f279.keep K280 all0
      obtain ⟨_, _, ⟨T308, L308, k308, n308⟩, -, X308, ⟨Lc308, hQ308, l308, y308, z308⟩, st308⟩ := Jvm.LawKit.callS X292 hx (y := (⟨"java/lang/String", "valueOf", "(C)Ljava/lang/String;"⟩ : MethodName)) hown (mvT hZ (hw _ (List.mem_of_getElem? (i := 193) rfl))) (mvT hZ (hw _ (List.mem_of_getElem? (i := 194) rfl))) (mvT hZ (hw _ (List.mem_of_getElem? (i := 4) rfl))) (mvT hZ (hw _ (List.mem_of_getElem? (i := 195) rfl))) (by decide) (backOf (W := 1) (rm30L l Z a0 hw [] ch cs T280.heap n0 Z283 hk f307 Zc (by assumption)) hZ (hw _ (List.mem_of_getElem? (i := 195) rfl)) (hw _ (List.mem_of_getElem? (i := 4) rfl)) (by decide) (by decide)) (g := (mkF m 145 #[.val (.int p1), .val (.int p2), .val (.int p3), .val (.int p4), .val (.int p5), .val (.ref b1), .val (.ref b25), .val (.int (1 : Int32)), .val (.ref b216), .val (.ref lst_280)] [(.int ch), (.ref st_280)])) rfl (by rw [hml]; rfl) (argsL := [(.int ch)]) (rest := [(.ref st_280)]) (lenOf pd_29 rfl) rfl (by show 2 * 0 + _ ≤ _; exact Nat.le_of_eq rfl) (hb hby at_145) (fun _ _ => ⟨rfl, e292, (by decide : 12 + 2 ≤ _), (by decide : 332 + 5 ≤ _)⟩)
      dsimp only [Pt.U, Pt.locs, Pt.cells, Pt.slots] at X308 l308 y308 z308 st308 hQ308
      subst y308 z308
      obtain ⟨st_308, ba_308, bcl_308, rfl, Nq308, K308, p308_1, p308_2, p308_3, p308_4, p308_5, p308_6, p308_7⟩ := hQ308
      have N309 : Fr n0 L308 := by rw [l308]; exact Fr.app N290 Nq308
      have J310 : ∀ t, Steps p.tables e below (T308.setTop (mkF m 148 #[.val (.int p1), .val (.int p2), .val (.int p3), .val (.int p4), .val (.int p5), .val (.ref b1), .val (.ref b25), .val (.int (1 : Int32)), .val (.ref b216), .val (.ref lst_280)] [(.ref st_308), (.ref st_280)])) t → Steps p.tables e below (s₁.setTop (entryFrame m #[(.int p1), (.int p2), (.int p3), (.int p4), (.int p5)] maxLocals)) t := fun t k => J295 t (st308 t k)
      have Z311 : n0 ≤ T308.heap.size := Nat.le_trans Z283 K308.1
      have kz := Nat.le_trans kz K308.1
      have f312 := p280_7.keep K308
      have f313 := p280_8.keep K308 nin0
      have f314 := p280_9.keep K308 nin0
      have f315 : Arr Z T308.heap ba_280 bcl_280 .byte := ⟨K308.2.1 _ _ p280_10.1 nin0, p280_10.2⟩
      have f316 := f307.keep K308 all0
      obtain ⟨cq317, kq317, q317a, q317b, q317c⟩ := isOf hZ rfl f312
      obtain ⟨_, _, ⟨T317, L317, k317, n317⟩, -, X317, ⟨Lc317, hQ317, l317, y317, z317⟩, st317⟩ := X308.virtualBack hx (y := (⟨"java/lang/String", "equals", "(Ljava/lang/Object;)Z"⟩ : MethodName)) (z := (⟨"java/lang/String", "equals", "(Ljava/lang/Object;)Z"⟩ : MethodName)) hown (mvT hZ (hw _ (List.mem_of_getElem? (i := 207) rfl))) (mvT hZ (hw _ (List.mem_of_getElem? (i := 208) rfl))) (notFace_of_selects (args := #[]) (mvT hZ (hw _ (List.mem_of_getElem? (i := 210) rfl)))) (mvT hZ (hw _ (List.mem_of_getElem? (i := 210) rfl))) (mvT hZ (hw _ (List.mem_of_getElem? (i := 209) rfl))) (by decide) (backOf (W := 0) (rm34L l Z a0 hw [] st_280 st_308 ba_280 ba_308 bcl_280 bcl_308 (nar .byte (ch.toInt8.toInt32)) cs T308.heap n0 Z311 f312 p308_1 (Nat.ne_of_lt (Nat.lt_of_lt_of_le p280_7.lt p308_7)) f313 p308_2 f314 p308_3 f315 p308_4 p280_11 p308_5 p280_12 p308_6 f316 Zc (by assumption)) hZ (hw _ (List.mem_of_getElem? (i := 211) rfl)) (hw _ (List.mem_of_getElem? (i := 4) rfl)) (by decide) (by decide)) q317a q317c (g := (mkF m 148 #[.val (.int p1), .val (.int p2), .val (.int p3), .val (.int p4), .val (.int p5), .val (.ref b1), .val (.ref b25), .val (.int (1 : Int32)), .val (.ref b216), .val (.ref lst_280)] [(.ref st_308), (.ref st_280)])) rfl (by rw [hml]; rfl) (Steps.refl _) (argsL := [(.ref st_308)]) (rest := []) (lenOf pd_20 rfl) rfl (by show 2 * 0 + _ ≤ _; exact Nat.le_of_eq rfl) (hb hby at_148) (fun _ _ => ⟨rfl, rfl, (by decide : 14 + 0 ≤ _), (by decide : 337 + 0 ≤ _)⟩)
      dsimp only [Pt.U, Pt.locs, Pt.cells, Pt.slots] at X317 l317 y317 z317 st317 hQ317
      subst y317 z317
      obtain ⟨rfl, Nq317, e317⟩ := hQ317
      have N318 : Fr n0 L317 := by rw [l317]; exact Fr.app N309 Nq317
      have J319 : ∀ t, Steps p.tables e below (T317.setTop (mkF m 151 #[.val (.int p1), .val (.int p2), .val (.int p3), .val (.int p4), .val (.int p5), .val (.ref b1), .val (.ref b25), .val (.int (1 : Int32)), .val (.ref b216), .val (.ref lst_280)] [(.int (1 : Int32))])) t → Steps p.tables e below (s₁.setTop (entryFrame m #[(.int p1), (.int p2), (.int p3), (.int p4), (.int p5)] maxLocals)) t := fun t k => J310 t (st317.trans k)
      have J320 : ∀ t, Steps p.tables e below (T317.setTop (mkF m 159 #[.val (.int p1), .val (.int p2), .val (.int p3), .val (.int p4), .val (.int p5), .val (.ref b1), .val (.ref b25), .val (.int (1 : Int32)), .val (.ref b216), .val (.ref lst_280)] [(.int (1 : Int32))])) t → Steps p.tables e below (s₁.setTop (entryFrame m #[(.int p1), (.int p2), (.int p3), (.int p4), (.int p5)] maxLocals)) t := fun t k => J319 t (by
          show Steps p.tables e below (T317.setTop (mkF m 151 #[.val (.int p1), .val (.int p2), .val (.int p3), .val (.int p4), .val (.int p5), .val (.ref b1), .val (.ref b25), .val (.int (1 : Int32)), .val (.ref b216), .val (.ref lst_280)] [(.int (1 : Int32))])) _
          refine XS.ifNo X317.here hx rfl (hb hby at_151) rfl ((if0 _ _).trans (feq (by decide)).1) ?_
          show Steps p.tables e below (T317.setTop (mkF m 154 #[.val (.int p1), .val (.int p2), .val (.int p3), .val (.int p4), .val (.int p5), .val (.ref b1), .val (.ref b25), .val (.int (1 : Int32)), .val (.ref b216), .val (.ref lst_280)] [])) _
          refine XS.iconst X317.here hx rfl (hb hby at_154) ?_
          show Steps p.tables e below (T317.setTop (mkF m 155 #[.val (.int p1), .val (.int p2), .val (.int p3), .val (.int p4), .val (.int p5), .val (.ref b1), .val (.ref b25), .val (.int (1 : Int32)), .val (.ref b216), .val (.ref lst_280)] [(.int (1 : Int32))])) _
          refine XS.goto X317.here hx rfl (pc0 := 155) (pc' := 159) rfl (hb hby at_155) (by decide) (by decide) ?_
          exact k)
      obtain ⟨fs, hr, hrun, hended, hWW⟩ := X317.leaveW hSi (by rw [e317]; exact kz) (v := some (.int (1 : Int32))) (fun h => by rw [Bd.returns] at h; cases h)
      refine ⟨_, _, J320 _ ?_, hrun, hended, _, _, rfl, ?_, hWW.1, hWW.2.1, hWW.2.2.1, hWW.2.2.2.mono (by decide) (by decide)⟩
      · show Steps p.tables e below (T317.setTop (mkF m 159 #[.val (.int p1), .val (.int p2), .val (.int p3), .val (.int p4), .val (.int p5), .val (.ref b1), .val (.ref b25), .val (.int (1 : Int32)), .val (.ref b216), .val (.ref lst_280)] [(.int (1 : Int32))])) _
        exact retN X317 hx (t := .boolean) Bd.returns (by simp) (hb hby at_159) hr
      · show Q0 Z p1 p2 p3 p4 p5 h0 n0 _ T317.heap _
        rw [e317]
        exact ⟨rfl, N318⟩
  ·
    have J321 : ∀ t, Steps p.tables e below (T77.setTop (mkF m 52 #[.val (.int p1), .val (.int p2), .val (.int p3), .val (.int p4), .val (.int p5), .val (.ref b1), .val (.ref b25), .unset, .unset, .unset] [(.ref b1)])) t → Steps p.tables e below (s₁.setTop (entryFrame m #[(.int p1), (.int p2), (.int p3), (.int p4), (.int p5)] maxLocals)) t := fun t k => J81 t (by
        show Steps p.tables e below (T77.setTop (mkF m 47 #[.val (.int p1), .val (.int p2), .val (.int p3), .val (.int p4), .val (.int p5), .val (.ref b1), .val (.ref b25), .unset, .unset, .unset] [(.int (p5 &&& (4 : Int32)))])) _
        refine XS.ifNo X77.here hx rfl (hb hby at_47) rfl ((if0 _ _).trans (feq h4).1) ?_
        show Steps p.tables e below (T77.setTop (mkF m 50 #[.val (.int p1), .val (.int p2), .val (.int p3), .val (.int p4), .val (.int p5), .val (.ref b1), .val (.ref b25), .unset, .unset, .unset] [])) _
        refine XS.aload X77.here hx rfl (hb hby at_50) rfl rfl ?_
        exact k)
    have f322 := p20_9.ext E25
    have f323 := f322.other W33 ne29
    have f324 := f323.other W38 ne29
    have f325 := f324.other W43 ne29
    have f326 : Arr Z T77.heap ea_20 ecl_20 .int := ⟨K77.2.1 _ _ f325.1 (ninS (Ne.symm p20_14) (ninS (Ne.symm p20_15) nin0)), f325.2⟩
    obtain ⟨cq327, kq327, q327a, q327b, q327c⟩ := isOf hZ rfl p77_1
    obtain ⟨_, _, ⟨T327, L327, k327, n327⟩, -, X327, ⟨Lc327, hQ327, l327, y327, z327⟩, st327⟩ := X77.virtualBack hx (y := (⟨"com/example/capwright/capwright/csv/CsvRow", "endField", "()V"⟩ : MethodName)) (z := (⟨"com/example/capwright/capwright/csv/CsvRow", "endField", "()V"⟩ : MethodName)) hown (mvT hZ (hw _ (List.mem_of_getElem? (i := 77) rfl))) (mvT hZ (hw _ (List.mem_of_getElem? (i := 78) rfl))) (notFace_of_selects (args := #[]) (mvT hZ (hw _ (List.mem_of_getElem? (i := 80) rfl)))) (mvT hZ (hw _ (List.mem_of_getElem? (i := 80) rfl))) (mvT hZ (hw _ (List.mem_of_getElem? (i := 79) rfl))) (by decide) (backOf (W := 0) (rm10 l Z a0 hw [] b1 ea_20 ecl_20 cnt (.ref ca_20) (.int (0 : Int32)) T77.heap n0 Z80 p77_1 ge3 p77_2 p77_3 p77_4 p77_5 p77_6 f326 p20_10 p20_12 p20_14) hZ (hw _ (List.mem_of_getElem? (i := 81) rfl)) (hw _ (List.mem_of_getElem? (i := 2) rfl)) (by decide) (by decide)) q327a q327c (g := (mkF m 52 #[.val (.int p1), .val (.int p2), .val (.int p3), .val (.int p4), .val (.int p5), .val (.ref b1), .val (.ref b25), .unset, .unset, .unset] [(.ref b1)])) rfl (by rw [hml]; rfl) (Steps.refl _) (argsL := []) (rest := []) (lenOf pd_3 rfl) rfl (by show 2 * 0 + _ ≤ _; exact Nat.le_of_eq rfl) (hb hby at_52) (fun _ _ => ⟨rfl, rfl, (by decide : 7 + 0 ≤ _), (by decide : 322 + 0 ≤ _)⟩)
    dsimp only [Pt.U, Pt.locs, Pt.cells, Pt.slots] at X327 l327 y327 z327 st327 hQ327
    subst y327 z327
    obtain ⟨ecl'_327, rfl, Nq327, K327, p327_1, p327_2, p327_3, p327_4, p327_5, p327_6, p327_7, p327_8, p327_9⟩ := hQ327
    have N328 : Fr n0 L327 := by rw [l327]; exact Fr.app N78 Nq327
    have J329 : ∀ t, Steps p.tables e below (T327.setTop (mkF m 55 #[.val (.int p1), .val (.int p2), .val (.int p3), .val (.int p4), .val (.int p5), .val (.ref b1), .val (.ref b25), .unset, .unset, .unset] [])) t → Steps p.tables e below (s₁.setTop (entryFrame m #[(.int p1), (.int p2), (.int p3), (.int p4), (.int p5)] maxLocals)) t := fun t k => J321 t (st327.trans k)
    have Z330 : n0 ≤ T327.heap.size := Nat.le_trans Z80 K327.1
    have kz := Nat.le_trans kz K327.1
    by_cases hk : (255 : Int32) < ch
    ·
      have J331 : ∀ t, Steps p.tables e below (T327.setTop (mkF m 58 #[.val (.int p1), .val (.int p2), .val (.int p3), .val (.int p4), .val (.int p5), .val (.ref b1), .val (.ref b25), .unset, .unset, .unset] [(.int p1), (.ref b1)])) t → Steps p.tables e below (s₁.setTop (entryFrame m #[(.int p1), (.int p2), (.int p3), (.int p4), (.int p5)] maxLocals)) t := fun t k => J329 t (by
          show Steps p.tables e below (T327.setTop (mkF m 55 #[.val (.int p1), .val (.int p2), .val (.int p3), .val (.int p4), .val (.int p5), .val (.ref b1), .val (.ref b25), .unset, .unset, .unset] [])) _
          refine XS.aload X327.here hx rfl (hb hby at_55) rfl rfl ?_
          show Steps p.tables e below (T327.setTop (mkF m 57 #[.val (.int p1), .val (.int p2), .val (.int p3), .val (.int p4), .val (.int p5), .val (.ref b1), .val (.ref b25), .unset, .unset, .unset] [(.ref b1)])) _
          refine XS.iloadN X327.here hx rfl (hb hby at_57) rfl ?_
          exact k)
      obtain ⟨cq332, kq332, q332a, q332b, q332c⟩ := isOf hZ rfl p327_1
      obtain ⟨_, _, ⟨T332, L332, k332, n332⟩, -, X332, ⟨Lc332, hQ332, l332, y332, z332⟩, st332⟩ := X327.virtualBack hx (y := (⟨"com/example/capwright/capwright/csv/CsvRow", "clear", "(I)V"⟩ : MethodName)) (z := (⟨"com/example/capwright/capwright/csv/CsvRow", "clear", "(I)V"⟩ : MethodName)) hown (mvT hZ (hw _ (List.mem_of_getElem? (i := 62) rfl))) (mvT hZ (hw _ (List.mem_of_getElem? (i := 63) rfl))) (notFace_of_selects (args := #[]) (mvT hZ (hw _ (List.mem_of_getElem? (i := 65) rfl)))) (mvT hZ (hw _ (List.mem_of_getElem? (i := 65) rfl))) (mvT hZ (hw _ (List.mem_of_getElem? (i := 64) rfl))) (by decide) (backOf (W := 0) (rm7 l Z a0 hw [] b1 p1 (.int (0 : Int32)) (.int (1 : Int32)) (.int cnt) (.ref ca_20) (.ref ea_20) T327.heap n0 Z330 p327_1 ge3 p327_2 p327_4 p327_3 p327_5 p327_6) hZ (hw _ (List.mem_of_getElem? (i := 66) rfl)) (hw _ (List.mem_of_getElem? (i := 2) rfl)) (by decide) (by decide)) q332a q332c (g := (mkF m 58 #[.val (.int p1), .val (.int p2), .val (.int p3), .val (.int p4), .val (.int p5), .val (.ref b1), .val (.ref b25), .unset, .unset, .unset] [(.int p1), (.ref b1)])) rfl (by rw [hml]; rfl) (Steps.refl _) (argsL := [(.int p1)]) (rest := []) (lenOf pd_18 rfl) rfl (by show 2 * 0 + _ ≤ _; exact Nat.le_of_eq rfl) (hb hby at_58) (fun _ _ => ⟨rfl, rfl, (by decide : 7 + 0 ≤ _), (by decide : 322 + 0 ≤ _)⟩)
      dsimp only [Pt.U, Pt.locs, Pt.cells, Pt.slots] at X332 l332 y332 z332 st332 hQ332
      subst y332 z332
      obtain ⟨rfl, Nq332, K332, p332_1, p332_2, p332_3, p332_4, p332_5, p332_6⟩ := hQ332
      have N333 : Fr n0 L332 := by rw [l332]; exact Fr.app N328 Nq332
      have J334 : ∀ t, Steps p.tables e below (T332.setTop (mkF m 61 #[.val (.int p1), .val (.int p2), .val (.int p3), .val (.int p4), .val (.int p5), .val (.ref b1), .val (.ref b25), .unset, .unset, .unset] [])) t → Steps p.tables e below (s₁.setTop (entryFrame m #[(.int p1), (.int p2), (.int p3), (.int p4), (.int p5)] maxLocals)) t := fun t k => J331 t (st332.trans k)
      have Z335 : n0 ≤ T332.heap.size := Nat.le_trans Z330 K332.1
      have kz := Nat.le_trans kz K332.1
      have J336 : ∀ t, Steps p.tables e below (T332.setTop (mkF m 63 #[.val (.int p1), .val (.int p2), .val (.int p3), .val (.int p4), .val (.int p5), .val (.ref b1), .val (.ref b25), .unset, .unset, .unset] [(.ref b1)])) t → Steps p.tables e below (s₁.setTop (entryFrame m #[(.int p1), (.int p2), (.int p3), (.int p4), (.int p5)] maxLocals)) t := fun t k => J334 t (by
          show Steps p.tables e below (T332.setTop (mkF m 61 #[.val (.int p1), .val (.int p2), .val (.int p3), .val (.int p4), .val (.int p5), .val (.ref b1), .val (.ref b25), .unset, .unset, .unset] [])) _
          refine XS.aload X332.here hx rfl (hb hby at_61) rfl rfl ?_
          exact k)
      obtain ⟨cq337, kq337, q337a, q337b, q337c⟩ := isOf hZ rfl p332_1
      obtain ⟨_, _, ⟨T337, L337, k337, n337⟩, -, X337, ⟨Lc337, hQ337, l337, y337, z337⟩, st337⟩ := X332.virtualBack hx (y := (⟨"com/example/capwright/capwright/csv/CsvRow", "line", "()I"⟩ : MethodName)) (z := (⟨"com/example/capwright/capwright/csv/CsvRow", "line", "()I"⟩ : MethodName)) hown (mvT hZ (hw _ (List.mem_of_getElem? (i := 67) rfl))) (mvT hZ (hw _ (List.mem_of_getElem? (i := 68) rfl))) (notFace_of_selects (args := #[]) (mvT hZ (hw _ (List.mem_of_getElem? (i := 70) rfl)))) (mvT hZ (hw _ (List.mem_of_getElem? (i := 70) rfl))) (mvT hZ (hw _ (List.mem_of_getElem? (i := 69) rfl))) (by decide) (backOf (W := 0) (rm8 l Z a0 hw [] b1 p1 T332.heap n0 Z335 p332_4) hZ (hw _ (List.mem_of_getElem? (i := 71) rfl)) (hw _ (List.mem_of_getElem? (i := 2) rfl)) (by decide) (by decide)) q337a q337c (g := (mkF m 63 #[.val (.int p1), .val (.int p2), .val (.int p3), .val (.int p4), .val (.int p5), .val (.ref b1), .val (.ref b25), .unset, .unset, .unset] [(.ref b1)])) rfl (by rw [hml]; rfl) (Steps.refl _) (argsL := []) (rest := []) (lenOf pd_27 rfl) rfl (by show 2 * 0 + _ ≤ _; exact Nat.le_of_eq rfl) (hb hby at_63) (fun _ _ => ⟨rfl, rfl, (by decide : 7 + 0 ≤ _), (by decide : 322 + 0 ≤ _)⟩)
      dsimp only [Pt.U, Pt.locs, Pt.cells, Pt.slots] at X337 l337 y337 z337 st337 hQ337
      subst y337 z337
      obtain ⟨rfl, Nq337, e337⟩ := hQ337
      have N338 : Fr n0 L337 := by rw [l337]; exact Fr.app N333 Nq337
      have J339 : ∀ t, Steps p.tables e below (T337.setTop (mkF m 66 #[.val (.int p1), .val (.int p2), .val (.int p3), .val (.int p4), .val (.int p5), .val (.ref b1), .val (.ref b25), .unset, .unset, .unset] [(.int p1)])) t → Steps p.tables e below (s₁.setTop (entryFrame m #[(.int p1), (.int p2), (.int p3), (.int p4), (.int p5)] maxLocals)) t := fun t k => J336 t (st337.trans k)
      have J340 : ∀ t, Steps p.tables e below (T337.setTop (mkF m 72 #[.val (.int p1), .val (.int p2), .val (.int p3), .val (.int p4), .val (.int p5), .val (.ref b1), .val (.ref b25), .unset, .unset, .unset] [(.ref b1)])) t → Steps p.tables e below (s₁.setTop (entryFrame m #[(.int p1), (.int p2), (.int p3), (.int p4), (.int p5)] maxLocals)) t := fun t k => J339 t (by
          show Steps p.tables e below (T337.setTop (mkF m 66 #[.val (.int p1), .val (.int p2), .val (.int p3), .val (.int p4), .val (.int p5), .val (.ref b1), .val (.ref b25), .unset, .unset, .unset] [(.int p1)])) _
          refine XS.iloadN X337.here hx rfl (hb hby at_66) rfl ?_
          show Steps p.tables e below (T337.setTop (mkF m 67 #[.val (.int p1), .val (.int p2), .val (.int p3), .val (.int p4), .val (.int p5), .val (.ref b1), .val (.ref b25), .unset, .unset, .unset] [(.int p1), (.int p1)])) _
          refine XS.icmpNo X337.here hx rfl (hb hby at_67) rfl (teq rfl).2 ?_
          show Steps p.tables e below (T337.setTop (mkF m 70 #[.val (.int p1), .val (.int p2), .val (.int p3), .val (.int p4), .val (.int p5), .val (.ref b1), .val (.ref b25), .unset, .unset, .unset] [])) _
          refine XS.aload X337.here hx rfl (hb hby at_70) rfl rfl ?_
          exact k)
      obtain ⟨cq341, kq341, q341a, q341b, q341c⟩ := isOf hZ e337 p332_1
      obtain ⟨_, _, ⟨T341, L341, k341, n341⟩, -, X341, ⟨Lc341, hQ341, l341, y341, z341⟩, st341⟩ := X337.virtualBack hx (y := (⟨"com/example/capwright/capwright/csv/CsvRow", "size", "()I"⟩ : MethodName)) (z := (⟨"com/example/capwright/capwright/csv/CsvRow", "size", "()I"⟩ : MethodName)) hown (mvT hZ (hw _ (List.mem_of_getElem? (i := 72) rfl))) (mvT hZ (hw _ (List.mem_of_getElem? (i := 73) rfl))) (notFace_of_selects (args := #[]) (mvT hZ (hw _ (List.mem_of_getElem? (i := 75) rfl)))) (mvT hZ (hw _ (List.mem_of_getElem? (i := 75) rfl))) (mvT hZ (hw _ (List.mem_of_getElem? (i := 74) rfl))) (by decide) (backOf (W := 0) (rm9 l Z a0 hw [] b1 (0 : Int32) T332.heap n0 Z335 p332_5) hZ (hw _ (List.mem_of_getElem? (i := 76) rfl)) (hw _ (List.mem_of_getElem? (i := 2) rfl)) (by decide) (by decide)) q341a q341c (g := (mkF m 72 #[.val (.int p1), .val (.int p2), .val (.int p3), .val (.int p4), .val (.int p5), .val (.ref b1), .val (.ref b25), .unset, .unset, .unset] [(.ref b1)])) rfl (by rw [hml]; rfl) (Steps.refl _) (argsL := []) (rest := []) (lenOf pd_27 rfl) rfl (by show 2 * 0 + _ ≤ _; exact Nat.le_of_eq rfl) (hb hby at_72) (fun _ _ => ⟨rfl, e337, (by decide : 7 + 0 ≤ _), (by decide : 322 + 0 ≤ _)⟩)
      dsimp only [Pt.U, Pt.locs, Pt.cells, Pt.slots] at X341 l341 y341 z341 st341 hQ341
      subst y341 z341
      obtain ⟨rfl, Nq341, e341⟩ := hQ341
      have N342 : Fr n0 L341 := by rw [l341]; exact Fr.app N338 Nq341
      have J343 : ∀ t, Steps p.tables e below (T341.setTop (mkF m 75 #[.val (.int p1), .val (.int p2), .val (.int p3), .val (.int p4), .val (.int p5), .val (.ref b1), .val (.ref b25), .unset, .unset, .unset] [(.int (0 : Int32))])) t → Steps p.tables e below (s₁.setTop (entryFrame m #[(.int p1), (.int p2), (.int p3), (.int p4), (.int p5)] maxLocals)) t := fun t k => J340 t (st341.trans k)
      have J344 : ∀ t, Steps p.tables e below (T341.setTop (mkF m 86 #[.val (.int p1), .val (.int p2), .val (.int p3), .val (.int p4), .val (.int p5), .val (.ref b1), .val (.ref b25), .val (.int (1 : Int32)), .unset, .unset] [(.int (1 : Int32))])) t → Steps p.tables e below (s₁.setTop (entryFrame m #[(.int p1), (.int p2), (.int p3), (.int p4), (.int p5)] maxLocals)) t := fun t k => J343 t (by
          show Steps p.tables e below (T341.setTop (mkF m 75 #[.val (.int p1), .val (.int p2), .val (.int p3), .val (.int p4), .val (.int p5), .val (.ref b1), .val (.ref b25), .unset, .unset, .unset] [(.int (0 : Int32))])) _
          refine XS.ifNo X341.here hx rfl (hb hby at_75) rfl ((if0 _ _).trans (teq (by decide)).2) ?_
          show Steps p.tables e below (T341.setTop (mkF m 78 #[.val (.int p1), .val (.int p2), .val (.int p3), .val (.int p4), .val (.int p5), .val (.ref b1), .val (.ref b25), .unset, .unset, .unset] [])) _
          refine XS.iconst X341.here hx rfl (hb hby at_78) ?_
          show Steps p.tables e below (T341.setTop (mkF m 79 #[.val (.int p1), .val (.int p2), .val (.int p3), .val (.int p4), .val (.int p5), .val (.ref b1), .val (.ref b25), .unset, .unset, .unset] [(.int (1 : Int32))])) _
          refine XS.goto X341.here hx rfl (pc0 := 79) (pc' := 83) rfl (hb hby at_79) (by decide) (by decide) ?_
          show Steps p.tables e below (T341.setTop (mkF m 83 #[.val (.int p1), .val (.int p2), .val (.int p3), .val (.int p4), .val (.int p5), .val (.ref b1), .val (.ref b25), .unset, .unset, .unset] [(.int (1 : Int32))])) _
          refine XS.istore X341.here hx rfl (hb hby at_83) rfl (l' := #[.val (.int p1), .val (.int p2), .val (.int p3), .val (.int p4), .val (.int p5), .val (.ref b1), .val (.ref b25), .val (.int (1 : Int32)), .unset, .unset]) rfl ?_
          show Steps p.tables e below (T341.setTop (mkF m 85 #[.val (.int p1), .val (.int p2), .val (.int p3), .val (.int p4), .val (.int p5), .val (.ref b1), .val (.ref b25), .val (.int (1 : Int32)), .unset, .unset] [])) _
          refine XS.iconst X341.here hx rfl (hb hby at_85) ?_
          exact k)
      have f346 := p77_7.keep K327 (ninS (Ne.symm p20_13) (ninS p20_15 nin0))
      have f347 := f346.keep K332 (ninS (Ne.symm p20_13) nin0)
      have f348 : Arr Z T332.heap ea_20 ecl'_327 .int := ⟨K332.2.1 _ _ p327_7.1 (ninS (Ne.symm p20_14) nin0), p327_7.2⟩
      have f349 := Av43.keep K77 (ninS (Ne.symm ne27) (ninS (Ne.symm ne28) nin0))
      have f350 := f349.keep K327 (ninS (Ne.symm ne27) (ninS (Ne.symm ne29) nin0))
      have f351 := f350.keep K332 (ninS (Ne.symm ne27) nin0)
      obtain ⟨T345, h345, k345, X345, e345, E345, A345, st345⟩ := newP X341 hx hZ (hw _ (List.mem_of_getElem? (i := 20) rfl)) e341 (g := (mkF m 86 #[.val (.int p1), .val (.int p2), .val (.int p3), .val (.int p4), .val (.int p5), .val (.ref b1), .val (.ref b25), .val (.int (1 : Int32)), .unset, .unset] [(.int (1 : Int32))])) rfl (hb hby at_86) rfl (by decide) (cap := 1) (by decide) (by decide) (by decide) (by decide)
      obtain ⟨b345, g345⟩ : ∃ z, z = T332.heap.size := ⟨_, rfl⟩
      rw [← g345] at A345 st345
      obtain ⟨cl345, hcl345⟩ : ∃ z, z = newA k345 .char (1 : Int32) := ⟨_, rfl⟩
      have Aw345 : Arr Z h345 b345 cl345 .char := by rw [hcl345]; exact A345
      have J352 : ∀ t, Steps p.tables e below (T345.setTop (mkF m 88 #[.val (.int p1), .val (.int p2), .val (.int p3), .val (.int p4), .val (.int p5), .val (.ref b1), .val (.ref b25), .val (.int (1 : Int32)), .unset, .unset] [(.ref b345)])) t → Steps p.tables e below (s₁.setTop (entryFrame m #[(.int p1), (.int p2), (.int p3), (.int p4), (.int p5)] maxLocals)) t := fun t k => J344 t (st345 t k)
      have ne353 : b1 ≠ b345 := Nat.ne_of_lt (Nat.lt_of_lt_of_le p332_1.lt (Nat.le_of_eq g345.symm))
      have ne354 : ca_20 ≠ b345 := Nat.ne_of_lt (Nat.lt_of_lt_of_le f347.lt (Nat.le_of_eq g345.symm))
      have ne355 : ea_20 ≠ b345 := Nat.ne_of_lt (Nat.lt_of_lt_of_le f348.lt (Nat.le_of_eq g345.symm))
      have ne356 : b25 ≠ b345 := Nat.ne_of_lt (Nat.lt_of_lt_of_le f351.lt (Nat.le_of_eq g345.symm))
      have ge357 : n0 ≤ b345 := Nat.le_trans Z335 (Nat.le_of_eq g345.symm)
      have Z358 : n0 ≤ h345.size := Nat.le_trans Z335 E345.1
      have kz := Nat.le_trans kz E345.1
      have hS345 : cl345.slots.size = (1 : Int32).toNatClampNeg := by rw [hcl345, sz_new]
      have hG345 := own_G_new hcl345
      have J359 : ∀ t, Steps p.tables e below (T345.setTop (mkF m 92 #[.val (.int p1), .val (.int p2), .val (.int p3), .val (.int p4), .val (.int p5), .val (.ref b1), .val (.ref b25), .val (.int (1 : Int32)), .unset, .unset] [(.int (p4.toUInt32.toUInt16.toUInt32.toInt32)), (.int (0 : Int32)), (.ref b345), (.ref b345)])) t → Steps p.tables e below (s₁.setTop (entryFrame m #[(.int p1), (.int p2), (.int p3), (.int p4), (.int p5)] maxLocals)) t := fun t k => J352 t (by
          show Steps p.tables e below (T345.setTop (mkF m 88 #[.val (.int p1), .val (.int p2), .val (.int p3), .val (.int p4), .val (.int p5), .val (.ref b1), .val (.ref b25), .val (.int (1 : Int32)), .unset, .unset] [(.ref b345)])) _
          refine XS.dup X345.here hx rfl (hb hby at_88) rfl rfl ?_
          show Steps p.tables e below (T345.setTop (mkF m 89 #[.val (.int p1), .val (.int p2), .val (.int p3), .val (.int p4), .val (.int p5), .val (.ref b1), .val (.ref b25), .val (.int (1 : Int32)), .unset, .unset] [(.ref b345), (.ref b345)])) _
          refine XS.iconst X345.here hx rfl (hb hby at_89) ?_
          show Steps p.tables e below (T345.setTop (mkF m 90 #[.val (.int p1), .val (.int p2), .val (.int p3), .val (.int p4), .val (.int p5), .val (.ref b1), .val (.ref b25), .val (.int (1 : Int32)), .unset, .unset] [(.int (0 : Int32)), (.ref b345), (.ref b345)])) _
          refine XS.iloadN X345.here hx rfl (hb hby at_90) rfl ?_
          show Steps p.tables e below (T345.setTop (mkF m 91 #[.val (.int p1), .val (.int p2), .val (.int p3), .val (.int p4), .val (.int p5), .val (.ref b1), .val (.ref b25), .val (.int (1 : Int32)), .unset, .unset] [(.int p4), (.int (0 : Int32)), (.ref b345), (.ref b345)])) _
          refine XS.i2c X345.here hx rfl (hb hby at_91) rfl ?_
          exact k)
      have J360 : ∀ t, Steps p.tables e below (T345.setTop (mkF m 92 #[.val (.int p1), .val (.int p2), .val (.int p3), .val (.int p4), .val (.int p5), .val (.ref b1), .val (.ref b25), .val (.int (1 : Int32)), .unset, .unset] [(.int ch), (.int (0 : Int32)), (.ref b345), (.ref b345)])) t → Steps p.tables e below (s₁.setTop (entryFrame m #[(.int p1), (.int p2), (.int p3), (.int p4), (.int p5)] maxLocals)) t := fun t k => J359 t (by rw [hch0] at k; exact k)
      obtain ⟨T361, h361, X361, e361, W361, st361⟩ := stC X345 hx hZ e345 Aw345 (j := (0 : Int32)) (own_in hS345 (by decide) (by decide)) (g := (mkF m 92 #[.val (.int p1), .val (.int p2), .val (.int p3), .val (.int p4), .val (.int p5), .val (.ref b1), .val (.ref b25), .val (.int (1 : Int32)), .unset, .unset] [(.int ch), (.int (0 : Int32)), (.ref b345), (.ref b345)])) rfl rfl (hb hby at_92)
      have J362 : ∀ t, Steps p.tables e below (T361.setTop (mkF m 93 #[.val (.int p1), .val (.int p2), .val (.int p3), .val (.int p4), .val (.int p5), .val (.ref b1), .val (.ref b25), .val (.int (1 : Int32)), .unset, .unset] [(.ref b345)])) t → Steps p.tables e below (s₁.setTop (entryFrame m #[(.int p1), (.int p2), (.int p3), (.int p4), (.int p5)] maxLocals)) t := fun t k => J360 t (st361 t k)
      have Z363 : n0 ≤ h361.size := Nat.le_trans Z358 (Keep.of_wr W361).1
      have kz := Nat.le_trans kz (Keep.of_wr W361).1
      have N364 := Fr.snoc X361 N342 ge357
      obtain ⟨cl361, hcl361⟩ : ∃ z, z = cl345.setSlot ((0 : Int32)).toNatClampNeg (.int (nar .char ch)) := ⟨_, rfl⟩
      have Aw361 : Arr Z h361 b345 cl361 .char := by rw [hcl361]; exact Aw345.same W361
      have hS361 := own_ssz hcl361 hS345
      have hG361 := own_G_set hG345 hcl361 (fits_nar_char _)
      have hv361 : cl361.slots[0]? = some (.int ch) := (own_same hcl361 (by decide) (by rw [hS345]; decide)).trans (by rw [own_nch hch])
      have Av361 := own_arv (dv := .int 0) Aw361 hS361 (by decide) hG361
      have J365 : ∀ t, Steps p.tables e below (T361.setTop (mkF m 101 #[.val (.int p1), .val (.int p2), .val (.int p3), .val (.int p4), .val (.int p5), .val (.ref b1), .val (.ref b25), .val (.int (1 : Int32)), .val (.ref b345), .unset] [(.int (1 : Int32)), (.int (0 : Int32)), (.ref b345), (.ref b1)])) t → Steps p.tables e below (s₁.setTop (entryFrame m #[(.int p1), (.int p2), (.int p3), (.int p4), (.int p5)] maxLocals)) t := fun t k => J362 t (by
          show Steps p.tables e below (T361.setTop (mkF m 93 #[.val (.int p1), .val (.int p2), .val (.int p3), .val (.int p4), .val (.int p5), .val (.ref b1), .val (.ref b25), .val (.int (1 : Int32)), .unset, .unset] [(.ref b345)])) _
          refine XS.astore X361.here hx rfl (hb hby at_93) rfl rfl (l' := #[.val (.int p1), .val (.int p2), .val (.int p3), .val (.int p4), .val (.int p5), .val (.ref b1), .val (.ref b25), .val (.int (1 : Int32)), .val (.ref b345), .unset]) rfl ?_
          show Steps p.tables e below (T361.setTop (mkF m 95 #[.val (.int p1), .val (.int p2), .val (.int p3), .val (.int p4), .val (.int p5), .val (.ref b1), .val (.ref b25), .val (.int (1 : Int32)), .val (.ref b345), .unset] [])) _
          refine XS.aload X361.here hx rfl (hb hby at_95) rfl rfl ?_
          show Steps p.tables e below (T361.setTop (mkF m 97 #[.val (.int p1), .val (.int p2), .val (.int p3), .val (.int p4), .val (.int p5), .val (.ref b1), .val (.ref b25), .val (.int (1 : Int32)), .val (.ref b345), .unset] [(.ref b1)])) _
          refine XS.aload X361.here hx rfl (hb hby at_97) rfl rfl ?_
          show Steps p.tables e below (T361.setTop (mkF m 99 #[.val (.int p1), .val (.int p2), .val (.int p3), .val (.int p4), .val (.int p5), .val (.ref b1), .val (.ref b25), .val (.int (1 : Int32)), .val (.ref b345), .unset] [(.ref b345), (.ref b1)])) _
          refine XS.iconst X361.here hx rfl (hb hby at_99) ?_
          show Steps p.tables e below (T361.setTop (mkF m 100 #[.val (.int p1), .val (.int p2), .val (.int p3), .val (.int p4), .val (.int p5), .val (.ref b1), .val (.ref b25), .val (.int (1 : Int32)), .val (.ref b345), .unset] [(.int (0 : Int32)), (.ref b345), (.ref b1)])) _
          refine XS.iconst X361.here hx rfl (hb hby at_100) ?_
          exact k)
      have f366 := p332_1.ext E345
      have f367 := f366.wr W361
      have f368 := p332_2.ext E345
      have f369 := f368.other W361 (Or.inl ne353)
      have f370 := p332_6.ext E345
      have f371 := f370.other W361 (Or.inl ne353)
      have f372 := f347.ext E345
      have f373 := f372.other W361 ne354
      have f374 := p332_4.ext E345
      have f375 := f374.other W361 (Or.inl ne353)
      have f376 := p332_3.ext E345
      have f377 := f376.other W361 (Or.inl ne353)
      have f378 := p332_5.ext E345
      have f379 := f378.other W361 (Or.inl ne353)
      obtain ⟨cq380, kq380, q380a, q380b, q380c⟩ := isOf hZ e361 f367
      obtain ⟨_, _, ⟨T380, L380, k380, n380⟩, -, X380, ⟨Lc380, hQ380, l380, y380, z380⟩, st380⟩ := X361.virtualBack hx (y := (⟨"com/example/capwright/capwright/csv/CsvRow", "append", "([CII)V"⟩ : MethodName)) (z := (⟨"com/example/capwright/capwright/csv/CsvRow", "append", "([CII)V"⟩ : MethodName)) hown (mvT hZ (hw _ (List.mem_of_getElem? (i := 53) rfl))) (mvT hZ (hw _ (List.mem_of_getElem? (i := 54) rfl))) (notFace_of_selects (args := #[]) (mvT hZ (hw _ (List.mem_of_getElem? (i := 56) rfl)))) (mvT hZ (hw _ (List.mem_of_getElem? (i := 56) rfl))) (mvT hZ (hw _ (List.mem_of_getElem? (i := 55) rfl))) (by decide) (backOf (W := 0) (rm6 l Z a0 hw [] b1 b345 ca_20 (1 : Int32) _ (1 : Int32) _ _ _ (.int p1) (.ref ea_20) (.int (0 : Int32)) h361 n0 Z363 f367 ge3 p20_8 f369 f371 Av361 f373 (by decide) (by decide) (Nat.le_refl _) (by decide) p77_8 p20_13 (Ne.symm ne354) ne353 f375 f377 f379) hZ (hw _ (List.mem_of_getElem? (i := 57) rfl)) (hw _ (List.mem_of_getElem? (i := 2) rfl)) (by decide) (by decide)) q380a q380c (g := (mkF m 101 #[.val (.int p1), .val (.int p2), .val (.int p3), .val (.int p4), .val (.int p5), .val (.ref b1), .val (.ref b25), .val (.int (1 : Int32)), .val (.ref b345), .unset] [(.int (1 : Int32)), (.int (0 : Int32)), (.ref b345), (.ref b1)])) rfl (by rw [hml]; rfl) (Steps.refl _) (argsL := [(.ref b345), (.int (0 : Int32)), (.int (1 : Int32))]) (rest := []) (lenOf pd_19 rfl) rfl (by show 2 * 0 + _ ≤ _; exact Nat.le_of_eq rfl) (hb hby at_101) (fun _ _ => ⟨rfl, e361, (by decide : 8 + 0 ≤ _), (by decide : 323 + 0 ≤ _)⟩)
      dsimp only [Pt.U, Pt.locs, Pt.cells, Pt.slots] at X380 l380 y380 z380 st380 hQ380
      subst y380 z380
      obtain ⟨vd'_380, rfl, Nq380, K380, p380_1, p380_2, p380_3, p380_4, p380_5, p380_6, p380_7, p380_8, p380_9⟩ := hQ380
      have N381 : Fr n0 L380 := by rw [l380]; exact Fr.app N364 Nq380
      have J382 : ∀ t, Steps p.tables e below (T380.setTop (mkF m 104 #[.val (.int p1), .val (.int p2), .val (.int p3), .val (.int p4), .val (.int p5), .val (.ref b1), .val (.ref b25), .val (.int (1 : Int32)), .val (.ref b345), .unset] [])) t → Steps p.tables e below (s₁.setTop (entryFrame m #[(.int p1), (.int p2), (.int p3), (.int p4), (.int p5)] maxLocals)) t := fun t k => J365 t (st380.trans k)
      have Z383 : n0 ≤ T380.heap.size := Nat.le_trans Z363 K380.1
      have kz := Nat.le_trans kz K380.1
      have J384 : ∀ t, Steps p.tables e below (T380.setTop (mkF m 106 #[.val (.int p1), .val (.int p2), .val (.int p3), .val (.int p4), .val (.int p5), .val (.ref b1), .val (.ref b25), .val (.int (1 : Int32)), .val (.ref b345), .unset] [(.ref b1)])) t → Steps p.tables e below (s₁.setTop (entryFrame m #[(.int p1), (.int p2), (.int p3), (.int p4), (.int p5)] maxLocals)) t := fun t k => J382 t (by
          show Steps p.tables e below (T380.setTop (mkF m 104 #[.val (.int p1), .val (.int p2), .val (.int p3), .val (.int p4), .val (.int p5), .val (.ref b1), .val (.ref b25), .val (.int (1 : Int32)), .val (.ref b345), .unset] [])) _
          refine XS.aload X380.here hx rfl (hb hby at_104) rfl rfl ?_
          exact k)
      have f385 := f348.ext E345
      have f386 := f385.other W361 ne355
      have f387 : Arr Z T380.heap ea_20 ecl'_327 .int := ⟨K380.2.1 _ _ f386.1 (ninS (Ne.symm p20_14) (ninS (Ne.symm p20_15) nin0)), f386.2⟩
      obtain ⟨cq388, kq388, q388a, q388b, q388c⟩ := isOf hZ rfl p380_1
      obtain ⟨_, _, ⟨T388, L388, k388, n388⟩, -, X388, ⟨Lc388, hQ388, l388, y388, z388⟩, st388⟩ := X380.virtualBack hx (y := (⟨"com/example/capwright/capwright/csv/CsvRow", "endField", "()V"⟩ : MethodName)) (z := (⟨"com/example/capwright/capwright/csv/CsvRow", "endField", "()V"⟩ : MethodName)) hown (mvT hZ (hw _ (List.mem_of_getElem? (i := 77) rfl))) (mvT hZ (hw _ (List.mem_of_getElem? (i := 78) rfl))) (notFace_of_selects (args := #[]) (mvT hZ (hw _ (List.mem_of_getElem? (i := 80) rfl)))) (mvT hZ (hw _ (List.mem_of_getElem? (i := 80) rfl))) (mvT hZ (hw _ (List.mem_of_getElem? (i := 79) rfl))) (by decide) (backOf (W := 0) (rm10 l Z a0 hw [] b1 ea_20 ecl'_327 (1 : Int32) (.ref ca_20) (.int p1) T380.heap n0 Z383 p380_1 ge3 p380_2 p380_3 p380_4 p380_5 p380_6 f387 p20_10 p327_8 p20_14) hZ (hw _ (List.mem_of_getElem? (i := 81) rfl)) (hw _ (List.mem_of_getElem? (i := 2) rfl)) (by decide) (by decide)) q388a q388c (g := (mkF m 106 #[.val (.int p1), .val (.int p2), .val (.int p3), .val (.int p4), .val (.int p5), .val (.ref b1), .val (.ref b25), .val (.int (1 : Int32)), .val (.ref b345), .unset] [(.ref b1)])) rfl (by rw [hml]; rfl) (Steps.refl _) (argsL := []) (rest := []) (lenOf pd_3 rfl) rfl (by show 2 * 0 + _ ≤ _; exact Nat.le_of_eq rfl) (hb hby at_106) (fun _ _ => ⟨rfl, rfl, (by decide : 8 + 0 ≤ _), (by decide : 323 + 0 ≤ _)⟩)
      dsimp only [Pt.U, Pt.locs, Pt.cells, Pt.slots] at X388 l388 y388 z388 st388 hQ388
      subst y388 z388
      obtain ⟨ecl'_388, rfl, Nq388, K388, p388_1, p388_2, p388_3, p388_4, p388_5, p388_6, p388_7, p388_8, p388_9⟩ := hQ388
      have N389 : Fr n0 L388 := by rw [l388]; exact Fr.app N381 Nq388
      have J390 : ∀ t, Steps p.tables e below (T388.setTop (mkF m 109 #[.val (.int p1), .val (.int p2), .val (.int p3), .val (.int p4), .val (.int p5), .val (.ref b1), .val (.ref b25), .val (.int (1 : Int32)), .val (.ref b345), .unset] [])) t → Steps p.tables e below (s₁.setTop (entryFrame m #[(.int p1), (.int p2), (.int p3), (.int p4), (.int p5)] maxLocals)) t := fun t k => J384 t (st388.trans k)
      have Z391 : n0 ≤ T388.heap.size := Nat.le_trans Z383 K388.1
      have kz := Nat.le_trans kz K388.1
      have J392 : ∀ t, Steps p.tables e below (T388.setTop (mkF m 111 #[.val (.int p1), .val (.int p2), .val (.int p3), .val (.int p4), .val (.int p5), .val (.ref b1), .val (.ref b25), .val (.int (1 : Int32)), .val (.ref b345), .unset] [(.ref b1)])) t → Steps p.tables e below (s₁.setTop (entryFrame m #[(.int p1), (.int p2), (.int p3), (.int p4), (.int p5)] maxLocals)) t := fun t k => J390 t (by
          show Steps p.tables e below (T388.setTop (mkF m 109 #[.val (.int p1), .val (.int p2), .val (.int p3), .val (.int p4), .val (.int p5), .val (.ref b1), .val (.ref b25), .val (.int (1 : Int32)), .val (.ref b345), .unset] [])) _
          refine XS.aload X388.here hx rfl (hb hby at_109) rfl rfl ?_
          exact k)
      have f394 := p380_7.keep K388 (ninS (Ne.symm p20_13) (ninS p20_15 nin0))
      obtain ⟨cc393, Ac393, qk393, Sc393, hz393, Hc393, Gc393⟩ := id f394
      have hcz393 : cc393.slots.size = 256 := Sc393.trans (by decide)
      have hc0393 : cc393.slots[0]? = some (.int ch) := own_has0 Hc393 (by rw [hcz393]; decide) ((p380_9 rfl).trans (own_getD hv361))
      have f395 := f11.keep K20 (allS ge3 all0)
      have f396 := f395.ext E25
      have f397 := f396.wr W33 ge30
      have f398 := f397.wr W38 ge30
      have f399 := f398.wr W43 ge30
      have f400 := f399.keep K77 (allS ge3 (allS p20_8 all0))
      have f401 := f400.keep K327 (allS ge3 (allS p20_10 all0))
      have f402 := f401.keep K332 (allS ge3 all0)
      have f403 := f402.ext E345
      have f404 := f403.wr W361 ge357
      have f405 := f404.keep K380 (allS ge3 (allS p20_8 all0))
      have f406 := f405.keep K388 (allS ge3 (allS p20_10 all0))
      obtain ⟨cq407, kq407, q407a, q407b, q407c⟩ := isOf hZ rfl p388_1
      obtain ⟨_, _, ⟨T407, L407, k407, n407⟩, -, X407, ⟨Lc407, hQ407, l407, y407, z407⟩, st407⟩ := X388.virtualBack hx (y := (⟨"com/example/capwright/capwright/csv/CsvRow", "fields", "()Ljava/util/List;"⟩ : MethodName)) (z := (⟨"com/example/capwright/capwright/csv/CsvRow", "fields", "()Ljava/util/List;"⟩ : MethodName)) hown (mvT hZ (hw _ (List.mem_of_getElem? (i := 82) rfl))) (mvT hZ (hw _ (List.mem_of_getElem? (i := 83) rfl))) (notFace_of_selects (args := #[]) (mvT hZ (hw _ (List.mem_of_getElem? (i := 85) rfl)))) (mvT hZ (hw _ (List.mem_of_getElem? (i := 85) rfl))) (mvT hZ (hw _ (List.mem_of_getElem? (i := 84) rfl))) (by decide) (backOf (W := 0) (rm11U l Z a0 hw [] b1 ca_20 cc393 ch ea_20 ecl'_388 cs fm T388.heap n0 Z391 p388_1 p388_5 p388_2 p388_4 Ac393 hcz393 hc0393 p388_7 p388_8 p388_9 hk f406 Zc (by assumption) Za Zh Zl (by assumption) Zf (by assumption)) hZ (hw _ (List.mem_of_getElem? (i := 86) rfl)) (hw _ (List.mem_of_getElem? (i := 2) rfl)) (by decide) (by decide)) q407a q407c (g := (mkF m 111 #[.val (.int p1), .val (.int p2), .val (.int p3), .val (.int p4), .val (.int p5), .val (.ref b1), .val (.ref b25), .val (.int (1 : Int32)), .val (.ref b345), .unset] [(.ref b1)])) rfl (by rw [hml]; rfl) (Steps.refl _) (argsL := []) (rest := []) (lenOf pd_28 rfl) rfl (by show 2 * 0 + _ ≤ _; exact Nat.le_of_eq rfl) (hb hby at_111) (fun _ _ => ⟨rfl, rfl, (by decide : 8 + 5 ≤ _), (by decide : 323 + 11 ≤ _)⟩)
      dsimp only [Pt.U, Pt.locs, Pt.cells, Pt.slots] at X407 l407 y407 z407 st407 hQ407
      subst y407 z407
      obtain ⟨lst_407, el_407, lcl_407, st_407, ba_407, bcl_407, rfl, Nq407, K407, p407_1, p407_2, p407_3, p407_4, p407_5, p407_6, p407_7, p407_8, p407_9, p407_10, p407_11, p407_12, p407_13⟩ := hQ407
      have N408 : Fr n0 L407 := by rw [l407]; exact Fr.app N389 Nq407
      have J409 : ∀ t, Steps p.tables e below (T407.setTop (mkF m 114 #[.val (.int p1), .val (.int p2), .val (.int p3), .val (.int p4), .val (.int p5), .val (.ref b1), .val (.ref b25), .val (.int (1 : Int32)), .val (.ref b345), .unset] [(.ref lst_407)])) t → Steps p.tables e below (s₁.setTop (entryFrame m #[(.int p1), (.int p2), (.int p3), (.int p4), (.int p5)] maxLocals)) t := fun t k => J392 t (st407.trans k)
      have Z410 : n0 ≤ T407.heap.size := Nat.le_trans Z391 K407.1
      have kz := Nat.le_trans kz K407.1
      have J411 : ∀ t, Steps p.tables e below (T407.setTop (mkF m 123 #[.val (.int p1), .val (.int p2), .val (.int p3), .val (.int p4), .val (.int p5), .val (.ref b1), .val (.ref b25), .val (.int (1 : Int32)), .val (.ref b345), .val (.ref lst_407)] [(.ref lst_407)])) t → Steps p.tables e below (s₁.setTop (entryFrame m #[(.int p1), (.int p2), (.int p3), (.int p4), (.int p5)] maxLocals)) t := fun t k => J409 t (by
          show Steps p.tables e below (T407.setTop (mkF m 114 #[.val (.int p1), .val (.int p2), .val (.int p3), .val (.int p4), .val (.int p5), .val (.ref b1), .val (.ref b25), .val (.int (1 : Int32)), .val (.ref b345), .unset] [(.ref lst_407)])) _
          refine XS.astore X407.here hx rfl (hb hby at_114) rfl rfl (l' := #[.val (.int p1), .val (.int p2), .val (.int p3), .val (.int p4), .val (.int p5), .val (.ref b1), .val (.ref b25), .val (.int (1 : Int32)), .val (.ref b345), .val (.ref lst_407)]) rfl ?_
          show Steps p.tables e below (T407.setTop (mkF m 116 #[.val (.int p1), .val (.int p2), .val (.int p3), .val (.int p4), .val (.int p5), .val (.ref b1), .val (.ref b25), .val (.int (1 : Int32)), .val (.ref b345), .val (.ref lst_407)] [])) _
          refine XS.iload X407.here hx rfl (hb hby at_116) rfl ?_
          show Steps p.tables e below (T407.setTop (mkF m 118 #[.val (.int p1), .val (.int p2), .val (.int p3), .val (.int p4), .val (.int p5), .val (.ref b1), .val (.ref b25), .val (.int (1 : Int32)), .val (.ref b345), .val (.ref lst_407)] [(.int (1 : Int32))])) _
          refine XS.ifNo X407.here hx rfl (hb hby at_118) rfl ((if0 _ _).trans (feq (by decide)).1) ?_
          show Steps p.tables e below (T407.setTop (mkF m 121 #[.val (.int p1), .val (.int p2), .val (.int p3), .val (.int p4), .val (.int p5), .val (.ref b1), .val (.ref b25), .val (.int (1 : Int32)), .val (.ref b345), .val (.ref lst_407)] [])) _
          refine XS.aload X407.here hx rfl (hb hby at_121) rfl rfl ?_
          exact k)
      obtain ⟨cq412, kq412, q412a, q412b, q412c⟩ := isOf hZ rfl p407_1
      obtain ⟨_, _, ⟨T412, L412, k412, n412⟩, -, X412, ⟨Lc412, hQ412, l412, y412, z412⟩, st412⟩ := X407.interfaceBack hx (xi := (⟨"java/util/List", "size", "()I"⟩ : MethodName)) (y := (⟨"java/util/ArrayList", "size", "()I"⟩ : MethodName)) hown (mvT hZ (hw _ (List.mem_of_getElem? (i := 164) rfl))) (mvT hZ (hw _ (List.mem_of_getElem? (i := 165) rfl))) (mvT hZ (hw _ (List.mem_of_getElem? (i := 166) rfl))) (mvT hZ (hw _ (List.mem_of_getElem? (i := 167) rfl))) (mvT hZ (hw _ (List.mem_of_getElem? (i := 168) rfl))) (mvT hZ (hw _ (List.mem_of_getElem? (i := 169) rfl))) (mvT hZ (hw _ (List.mem_of_getElem? (i := 170) rfl))) (mvT hZ (hw _ (List.mem_of_getElem? (i := 152) rfl))) (by decide) (backOf (W := 0) (rm25 l Z a0 hw [] lst_407 (1 : Int32) T407.heap n0 Z410 p407_2) hZ (hw _ (List.mem_of_getElem? (i := 171) rfl)) (hw _ (List.mem_of_getElem? (i := 89) rfl)) (by decide) (by decide)) q412a q412b q412c (g := (mkF m 123 #[.val (.int p1), .val (.int p2), .val (.int p3), .val (.int p4), .val (.int p5), .val (.ref b1), .val (.ref b25), .val (.int (1 : Int32)), .val (.ref b345), .val (.ref lst_407)] [(.ref lst_407)])) rfl (by rw [hml]; rfl) (Steps.refl _) (argsL := []) (rest := []) (lenOf pd_27 rfl) rfl (by show 2 * 0 + _ ≤ _; exact Nat.le_of_eq rfl) (hb hby at_123) (fun _ _ => ⟨rfl, rfl, (by decide : 13 + 0 ≤ _), (by decide : 334 + 0 ≤ _)⟩)
      dsimp only [Pt.U, Pt.locs, Pt.cells, Pt.slots] at X412 l412 y412 z412 st412 hQ412
      subst y412 z412
      obtain ⟨rfl, Nq412, e412⟩ := hQ412
      have N413 : Fr n0 L412 := by rw [l412]; exact Fr.app N408 Nq412
      have J414 : ∀ t, Steps p.tables e below (T412.setTop (mkF m 128 #[.val (.int p1), .val (.int p2), .val (.int p3), .val (.int p4), .val (.int p5), .val (.ref b1), .val (.ref b25), .val (.int (1 : Int32)), .val (.ref b345), .val (.ref lst_407)] [(.int (1 : Int32))])) t → Steps p.tables e below (s₁.setTop (entryFrame m #[(.int p1), (.int p2), (.int p3), (.int p4), (.int p5)] maxLocals)) t := fun t k => J411 t (st412.trans k)
      have J415 : ∀ t, Steps p.tables e below (T412.setTop (mkF m 135 #[.val (.int p1), .val (.int p2), .val (.int p3), .val (.int p4), .val (.int p5), .val (.ref b1), .val (.ref b25), .val (.int (1 : Int32)), .val (.ref b345), .val (.ref lst_407)] [(.int (0 : Int32)), (.ref lst_407)])) t → Steps p.tables e below (s₁.setTop (entryFrame m #[(.int p1), (.int p2), (.int p3), (.int p4), (.int p5)] maxLocals)) t := fun t k => J414 t (by
          show Steps p.tables e below (T412.setTop (mkF m 128 #[.val (.int p1), .val (.int p2), .val (.int p3), .val (.int p4), .val (.int p5), .val (.ref b1), .val (.ref b25), .val (.int (1 : Int32)), .val (.ref b345), .val (.ref lst_407)] [(.int (1 : Int32))])) _
          refine XS.iconst X412.here hx rfl (hb hby at_128) ?_
          show Steps p.tables e below (T412.setTop (mkF m 129 #[.val (.int p1), .val (.int p2), .val (.int p3), .val (.int p4), .val (.int p5), .val (.ref b1), .val (.ref b25), .val (.int (1 : Int32)), .val (.ref b345), .val (.ref lst_407)] [(.int (1 : Int32)), (.int (1 : Int32))])) _
          refine XS.icmpNo X412.here hx rfl (hb hby at_129) rfl (teq rfl).2 ?_
          show Steps p.tables e below (T412.setTop (mkF m 132 #[.val (.int p1), .val (.int p2), .val (.int p3), .val (.int p4), .val (.int p5), .val (.ref b1), .val (.ref b25), .val (.int (1 : Int32)), .val (.ref b345), .val (.ref lst_407)] [])) _
          refine XS.aload X412.here hx rfl (hb hby at_132) rfl rfl ?_
          show Steps p.tables e below (T412.setTop (mkF m 134 #[.val (.int p1), .val (.int p2), .val (.int p3), .val (.int p4), .val (.int p5), .val (.ref b1), .val (.ref b25), .val (.int (1 : Int32)), .val (.ref b345), .val (.ref lst_407)] [(.ref lst_407)])) _
          refine XS.iconst X412.here hx rfl (hb hby at_134) ?_
          exact k)
      obtain ⟨cq416, kq416, q416a, q416b, q416c⟩ := isOf hZ e412 p407_1
      obtain ⟨_, _, ⟨T416, L416, k416, n416⟩, -, X416, ⟨Lc416, hQ416, l416, y416, z416⟩, st416⟩ := X412.interfaceBack hx (xi := (⟨"java/util/List", "get", "(I)Ljava/lang/Object;"⟩ : MethodName)) (y := (⟨"java/util/ArrayList", "get", "(I)Ljava/lang/Object;"⟩ : MethodName)) hown (mvT hZ (hw _ (List.mem_of_getElem? (i := 172) rfl))) (mvT hZ (hw _ (List.mem_of_getElem? (i := 173) rfl))) (mvT hZ (hw _ (List.mem_of_getElem? (i := 174) rfl))) (mvT hZ (hw _ (List.mem_of_getElem? (i := 175) rfl))) (mvT hZ (hw _ (List.mem_of_getElem? (i := 176) rfl))) (mvT hZ (hw _ (List.mem_of_getElem? (i := 177) rfl))) (mvT hZ (hw _ (List.mem_of_getElem? (i := 178) rfl))) (mvT hZ (hw _ (List.mem_of_getElem? (i := 152) rfl))) (by decide) (backOf (W := 0) (rm26 l Z a0 hw [] lst_407 st_407 el_407 lcl_407 T407.heap n0 Z410 p407_1 p407_4 p407_5 p407_6 p407_3 p407_2) hZ (hw _ (List.mem_of_getElem? (i := 179) rfl)) (hw _ (List.mem_of_getElem? (i := 89) rfl)) (by decide) (by decide)) q416a q416b q416c (g := (mkF m 135 #[.val (.int p1), .val (.int p2), .val (.int p3), .val (.int p4), .val (.int p5), .val (.ref b1), .val (.ref b25), .val (.int (1 : Int32)), .val (.ref b345), .val (.ref lst_407)] [(.int (0 : Int32)), (.ref lst_407)])) rfl (by rw [hml]; rfl) (Steps.refl _) (argsL := [(.int (0 : Int32))]) (rest := []) (lenOf pd_7 rfl) rfl (by show 2 * 0 + _ ≤ _; exact Nat.le_of_eq rfl) (hb hby at_135) (fun _ _ => ⟨rfl, e412, (by decide : 13 + 0 ≤ _), (by decide : 334 + 0 ≤ _)⟩)
      dsimp only [Pt.U, Pt.locs, Pt.cells, Pt.slots] at X416 l416 y416 z416 st416 hQ416
      subst y416 z416
      obtain ⟨rfl, Nq416, e416⟩ := hQ416
      have N417 : Fr n0 L416 := by rw [l416]; exact Fr.app N413 Nq416
      have J418 : ∀ t, Steps p.tables e below (T416.setTop (mkF m 140 #[.val (.int p1), .val (.int p2), .val (.int p3), .val (.int p4), .val (.int p5), .val (.ref b1), .val (.ref b25), .val (.int (1 : Int32)), .val (.ref b345), .val (.ref lst_407)] [(.ref st_407)])) t → Steps p.tables e below (s₁.setTop (entryFrame m #[(.int p1), (.int p2), (.int p3), (.int p4), (.int p5)] maxLocals)) t := fun t k => J415 t (st416.trans k)
      obtain ⟨T419, X419, e419, st419⟩ := castY X416 hx hZ hown (hw _ (List.mem_of_getElem? (i := 192) rfl)) e416 (Ins.self p407_7) (g := (mkF m 140 #[.val (.int p1), .val (.int p2), .val (.int p3), .val (.int p4), .val (.int p5), .val (.ref b1), .val (.ref b25), .val (.int (1 : Int32)), .val (.ref b345), .val (.ref lst_407)] [(.ref st_407)])) rfl rfl (hb hby at_140)
      have J420 : ∀ t, Steps p.tables e below (T419.setTop (mkF m 143 #[.val (.int p1), .val (.int p2), .val (.int p3), .val (.int p4), .val (.int p5), .val (.ref b1), .val (.ref b25), .val (.int (1 : Int32)), .val (.ref b345), .val (.ref lst_407)] [(.ref st_407)])) t → Steps p.tables e below (s₁.setTop (entryFrame m #[(.int p1), (.int p2), (.int p3), (.int p4), (.int p5)] maxLocals)) t := fun t k => J418 t (st419 t k)
      have J421 : ∀ t, Steps p.tables e below (T419.setTop (mkF m 145 #[.val (.int p1), .val (.int p2), .val (.int p3), .val (.int p4), .val (.int p5), .val (.ref b1), .val (.ref b25), .val (.int (1 : Int32)), .val (.ref b345), .val (.ref lst_407)] [(.int (p4.toUInt32.toUInt16.toUInt32.toInt32)), (.ref st_407)])) t → Steps p.tables e below (s₁.setTop (entryFrame m #[(.int p1), (.int p2), (.int p3), (.int p4), (.int p5)] maxLocals)) t := fun t k => J420 t (by
          show Steps p.tables e below (T419.setTop (mkF m 143 #[.val (.int p1), .val (.int p2), .val (.int p3), .val (.int p4), .val (.int p5), .val (.ref b1), .val (.ref b25), .val (.int (1 : Int32)), .val (.ref b345), .val (.ref lst_407)] [(.ref st_407)])) _
          refine XS.iloadN X419.here hx rfl (hb hby at_143) rfl ?_
          show Steps p.tables e below (T419.setTop (mkF m 144 #[.val (.int p1), .val (.int p2), .val (.int p3), .val (.int p4), .val (.int p5), .val (.ref b1), .val (.ref b25), .val (.int (1 : Int32)), .val (.ref b345), .val (.ref lst_407)] [(.int p4), (.ref st_407)])) _
          refine XS.i2c X419.here hx rfl (hb hby at_144) rfl ?_
          exact k)
      have J422 : ∀ t, Steps p.tables e below (T419.setTop (mkF m 145 #[.val (.int p1), .val (.int p2), .val (.int p3), .val (.int p4), .val (.int p5), .val (.ref b1), .val (.ref b25), .val (.int (1 : Int32)), .val (.ref b345), .val (.ref lst_407)] [(.int ch), (.ref st_407)])) t → Steps p.tables e below (s₁.setTop (entryFrame m #[(.int p1), (.int p2), (.int p3), (.int p4), (.int p5)] maxLocals)) t := fun t k => J421 t (by rw [hch0] at k; exact k)
      have f423 := p388_1.keep K407
      have f424 := f394.keep K407 nin0
      have f425 : Arr Z T407.heap ea_20 ecl'_388 .int := ⟨K407.2.1 _ _ p388_7.1 nin0, p388_7.2⟩
      have f426 := f351.ext E345
      have f427 := f426.other W361 ne356
      have f428 := f427.keep K380 (ninS (Ne.symm ne27) (ninS (Ne.symm ne28) nin0))
      have f429 := f428.keep K388 (ninS (Ne.symm ne27) (ninS (Ne.symm ne29) nin0))
      have f430 := f429.keep K407 nin0
      have f431 := Av361.keep K380 (ninS (Ne.symm ne353) (ninS (Ne.symm ne354) nin0))
      have f432 := f431.keep K388 (ninS (Ne.symm ne353) (ninS (Ne.symm ne355) nin0))
      have f433 := f432.keep K407 nin0
      have f434 := f406.keep K407 all0
      obtain ⟨_, _, ⟨T435, L435, k435, n435⟩, -, X435, ⟨Lc435, hQ435, l435, y435, z435⟩, st435⟩ := Jvm.LawKit.callS X419 hx (y := (⟨"java/lang/String", "valueOf", "(C)Ljava/lang/String;"⟩ : MethodName)) hown (mvT hZ (hw _ (List.mem_of_getElem? (i := 193) rfl))) (mvT hZ (hw _ (List.mem_of_getElem? (i := 194) rfl))) (mvT hZ (hw _ (List.mem_of_getElem? (i := 4) rfl))) (mvT hZ (hw _ (List.mem_of_getElem? (i := 195) rfl))) (by decide) (backOf (W := 1) (rm30U l Z a0 hw [] ch cs T407.heap n0 Z410 hk f434 Zc (by assumption) Za Zh Zl) hZ (hw _ (List.mem_of_getElem? (i := 195) rfl)) (hw _ (List.mem_of_getElem? (i := 4) rfl)) (by decide) (by decide)) (g := (mkF m 145 #[.val (.int p1), .val (.int p2), .val (.int p3), .val (.int p4), .val (.int p5), .val (.ref b1), .val (.ref b25), .val (.int (1 : Int32)), .val (.ref b345), .val (.ref lst_407)] [(.int ch), (.ref st_407)])) rfl (by rw [hml]; rfl) (argsL := [(.int ch)]) (rest := [(.ref st_407)]) (lenOf pd_29 rfl) rfl (by show 2 * 0 + _ ≤ _; exact Nat.le_of_eq rfl) (hb hby at_145) (fun _ _ => ⟨rfl, e419, (by decide : 13 + 2 ≤ _), (by decide : 334 + 6 ≤ _)⟩)
      dsimp only [Pt.U, Pt.locs, Pt.cells, Pt.slots] at X435 l435 y435 z435 st435 hQ435
      subst y435 z435
      obtain ⟨st_435, ba_435, bcl_435, rfl, Nq435, K435, p435_1, p435_2, p435_3, p435_4, p435_5, p435_6, p435_7, p435_8⟩ := hQ435
      have N436 : Fr n0 L435 := by rw [l435]; exact Fr.app N417 Nq435
      have J437 : ∀ t, Steps p.tables e below (T435.setTop (mkF m 148 #[.val (.int p1), .val (.int p2), .val (.int p3), .val (.int p4), .val (.int p5), .val (.ref b1), .val (.ref b25), .val (.int (1 : Int32)), .val (.ref b345), .val (.ref lst_407)] [(.ref st_435), (.ref st_407)])) t → Steps p.tables e below (s₁.setTop (entryFrame m #[(.int p1), (.int p2), (.int p3), (.int p4), (.int p5)] maxLocals)) t := fun t k => J422 t (st435 t k)
      have Z438 : n0 ≤ T435.heap.size := Nat.le_trans Z410 K435.1
      have kz := Nat.le_trans kz K435.1
      have f439 := p407_7.keep K435
      have f440 := p407_8.keep K435 nin0
      have f441 := p407_9.keep K435 nin0
      have f442 : Arr Z T435.heap ba_407 bcl_407 .byte := ⟨K435.2.1 _ _ p407_10.1 nin0, p407_10.2⟩
      have f443 := f434.keep K435 all0
      obtain ⟨cq444, kq444, q444a, q444b, q444c⟩ := isOf hZ rfl f439
      obtain ⟨_, _, ⟨T444, L444, k444, n444⟩, -, X444, ⟨Lc444, hQ444, l444, y444, z444⟩, st444⟩ := X435.virtualBack hx (y := (⟨"java/lang/String", "equals", "(Ljava/lang/Object;)Z"⟩ : MethodName)) (z := (⟨"java/lang/String", "equals", "(Ljava/lang/Object;)Z"⟩ : MethodName)) hown (mvT hZ (hw _ (List.mem_of_getElem? (i := 207) rfl))) (mvT hZ (hw _ (List.mem_of_getElem? (i := 208) rfl))) (notFace_of_selects (args := #[]) (mvT hZ (hw _ (List.mem_of_getElem? (i := 210) rfl)))) (mvT hZ (hw _ (List.mem_of_getElem? (i := 210) rfl))) (mvT hZ (hw _ (List.mem_of_getElem? (i := 209) rfl))) (by decide) (backOf (W := 0) (rm34U l Z a0 hw [] st_407 st_435 ba_407 ba_435 bcl_407 bcl_435 (own_u0 ch) (own_u1 ch) cs T435.heap n0 Z438 f439 p435_1 (Nat.ne_of_lt (Nat.lt_of_lt_of_le p407_7.lt p435_8)) f440 p435_2 f441 p435_3 f442 p435_4 p407_11 p435_5 p407_12 p435_6 p407_13 p435_7 f443 Zc (by assumption)) hZ (hw _ (List.mem_of_getElem? (i := 211) rfl)) (hw _ (List.mem_of_getElem? (i := 4) rfl)) (by decide) (by decide)) q444a q444c (g := (mkF m 148 #[.val (.int p1), .val (.int p2), .val (.int p3), .val (.int p4), .val (.int p5), .val (.ref b1), .val (.ref b25), .val (.int (1 : Int32)), .val (.ref b345), .val (.ref lst_407)] [(.ref st_435), (.ref st_407)])) rfl (by rw [hml]; rfl) (Steps.refl _) (argsL := [(.ref st_435)]) (rest := []) (lenOf pd_20 rfl) rfl (by show 2 * 0 + _ ≤ _; exact Nat.le_of_eq rfl) (hb hby at_148) (fun _ _ => ⟨rfl, rfl, (by decide : 15 + 0 ≤ _), (by decide : 340 + 0 ≤ _)⟩)
      dsimp only [Pt.U, Pt.locs, Pt.cells, Pt.slots] at X444 l444 y444 z444 st444 hQ444
      subst y444 z444
      obtain ⟨rfl, Nq444, e444⟩ := hQ444
      have N445 : Fr n0 L444 := by rw [l444]; exact Fr.app N436 Nq444
      have J446 : ∀ t, Steps p.tables e below (T444.setTop (mkF m 151 #[.val (.int p1), .val (.int p2), .val (.int p3), .val (.int p4), .val (.int p5), .val (.ref b1), .val (.ref b25), .val (.int (1 : Int32)), .val (.ref b345), .val (.ref lst_407)] [(.int (1 : Int32))])) t → Steps p.tables e below (s₁.setTop (entryFrame m #[(.int p1), (.int p2), (.int p3), (.int p4), (.int p5)] maxLocals)) t := fun t k => J437 t (st444.trans k)
      have J447 : ∀ t, Steps p.tables e below (T444.setTop (mkF m 159 #[.val (.int p1), .val (.int p2), .val (.int p3), .val (.int p4), .val (.int p5), .val (.ref b1), .val (.ref b25), .val (.int (1 : Int32)), .val (.ref b345), .val (.ref lst_407)] [(.int (1 : Int32))])) t → Steps p.tables e below (s₁.setTop (entryFrame m #[(.int p1), (.int p2), (.int p3), (.int p4), (.int p5)] maxLocals)) t := fun t k => J446 t (by
          show Steps p.tables e below (T444.setTop (mkF m 151 #[.val (.int p1), .val (.int p2), .val (.int p3), .val (.int p4), .val (.int p5), .val (.ref b1), .val (.ref b25), .val (.int (1 : Int32)), .val (.ref b345), .val (.ref lst_407)] [(.int (1 : Int32))])) _
          refine XS.ifNo X444.here hx rfl (hb hby at_151) rfl ((if0 _ _).trans (feq (by decide)).1) ?_
          show Steps p.tables e below (T444.setTop (mkF m 154 #[.val (.int p1), .val (.int p2), .val (.int p3), .val (.int p4), .val (.int p5), .val (.ref b1), .val (.ref b25), .val (.int (1 : Int32)), .val (.ref b345), .val (.ref lst_407)] [])) _
          refine XS.iconst X444.here hx rfl (hb hby at_154) ?_
          show Steps p.tables e below (T444.setTop (mkF m 155 #[.val (.int p1), .val (.int p2), .val (.int p3), .val (.int p4), .val (.int p5), .val (.ref b1), .val (.ref b25), .val (.int (1 : Int32)), .val (.ref b345), .val (.ref lst_407)] [(.int (1 : Int32))])) _
          refine XS.goto X444.here hx rfl (pc0 := 155) (pc' := 159) rfl (hb hby at_155) (by decide) (by decide) ?_
          exact k)
      obtain ⟨fs, hr, hrun, hended, hWW⟩ := X444.leaveW hSi (by rw [e444]; exact kz) (v := some (.int (1 : Int32))) (fun h => by rw [Bd.returns] at h; cases h)
      refine ⟨_, _, J447 _ ?_, hrun, hended, _, _, rfl, ?_, hWW.1, hWW.2.1, hWW.2.2.1, hWW.2.2.2.mono (by decide) (by decide)⟩
      · show Steps p.tables e below (T444.setTop (mkF m 159 #[.val (.int p1), .val (.int p2), .val (.int p3), .val (.int p4), .val (.int p5), .val (.ref b1), .val (.ref b25), .val (.int (1 : Int32)), .val (.ref b345), .val (.ref lst_407)] [(.int (1 : Int32))])) _
        exact retN X444 hx (t := .boolean) Bd.returns (by simp) (hb hby at_159) hr
      · show Q0 Z p1 p2 p3 p4 p5 h0 n0 _ T444.heap _
        rw [e444]
        exact ⟨rfl, N445⟩
    ·
      have J448 : ∀ t, Steps p.tables e below (T327.setTop (mkF m 58 #[.val (.int p1), .val (.int p2), .val (.int p3), .val (.int p4), .val (.int p5), .val (.ref b1), .val (.ref b25), .unset, .unset, .unset] [(.int p1), (.ref b1)])) t → Steps p.tables e below (s₁.setTop (entryFrame m #[(.int p1), (.int p2), (.int p3), (.int p4), (.int p5)] maxLocals)) t := fun t k => J329 t (by
          show Steps p.tables e below (T327.setTop (mkF m 55 #[.val (.int p1), .val (.int p2), .val (.int p3), .val (.int p4), .val (.int p5), .val (.ref b1), .val (.ref b25), .unset, .unset, .unset] [])) _
          refine XS.aload X327.here hx rfl (hb hby at_55) rfl rfl ?_
          show Steps p.tables e below (T327.setTop (mkF m 57 #[.val (.int p1), .val (.int p2), .val (.int p3), .val (.int p4), .val (.int p5), .val (.ref b1), .val (.ref b25), .unset, .unset, .unset] [(.ref b1)])) _
          refine XS.iloadN X327.here hx rfl (hb hby at_57) rfl ?_
          exact k)
      obtain ⟨cq449, kq449, q449a, q449b, q449c⟩ := isOf hZ rfl p327_1
      obtain ⟨_, _, ⟨T449, L449, k449, n449⟩, -, X449, ⟨Lc449, hQ449, l449, y449, z449⟩, st449⟩ := X327.virtualBack hx (y := (⟨"com/example/capwright/capwright/csv/CsvRow", "clear", "(I)V"⟩ : MethodName)) (z := (⟨"com/example/capwright/capwright/csv/CsvRow", "clear", "(I)V"⟩ : MethodName)) hown (mvT hZ (hw _ (List.mem_of_getElem? (i := 62) rfl))) (mvT hZ (hw _ (List.mem_of_getElem? (i := 63) rfl))) (notFace_of_selects (args := #[]) (mvT hZ (hw _ (List.mem_of_getElem? (i := 65) rfl)))) (mvT hZ (hw _ (List.mem_of_getElem? (i := 65) rfl))) (mvT hZ (hw _ (List.mem_of_getElem? (i := 64) rfl))) (by decide) (backOf (W := 0) (rm7 l Z a0 hw [] b1 p1 (.int (0 : Int32)) (.int (1 : Int32)) (.int cnt) (.ref ca_20) (.ref ea_20) T327.heap n0 Z330 p327_1 ge3 p327_2 p327_4 p327_3 p327_5 p327_6) hZ (hw _ (List.mem_of_getElem? (i := 66) rfl)) (hw _ (List.mem_of_getElem? (i := 2) rfl)) (by decide) (by decide)) q449a q449c (g := (mkF m 58 #[.val (.int p1), .val (.int p2), .val (.int p3), .val (.int p4), .val (.int p5), .val (.ref b1), .val (.ref b25), .unset, .unset, .unset] [(.int p1), (.ref b1)])) rfl (by rw [hml]; rfl) (Steps.refl _) (argsL := [(.int p1)]) (rest := []) (lenOf pd_18 rfl) rfl (by show 2 * 0 + _ ≤ _; exact Nat.le_of_eq rfl) (hb hby at_58) (fun _ _ => ⟨rfl, rfl, (by decide : 7 + 0 ≤ _), (by decide : 322 + 0 ≤ _)⟩)
      dsimp only [Pt.U, Pt.locs, Pt.cells, Pt.slots] at X449 l449 y449 z449 st449 hQ449
      subst y449 z449
      obtain ⟨rfl, Nq449, K449, p449_1, p449_2, p449_3, p449_4, p449_5, p449_6⟩ := hQ449
      have N450 : Fr n0 L449 := by rw [l449]; exact Fr.app N328 Nq449
      have J451 : ∀ t, Steps p.tables e below (T449.setTop (mkF m 61 #[.val (.int p1), .val (.int p2), .val (.int p3), .val (.int p4), .val (.int p5), .val (.ref b1), .val (.ref b25), .unset, .unset, .unset] [])) t → Steps p.tables e below (s₁.setTop (entryFrame m #[(.int p1), (.int p2), (.int p3), (.int p4), (.int p5)] maxLocals)) t := fun t k => J448 t (st449.trans k)
      have Z452 : n0 ≤ T449.heap.size := Nat.le_trans Z330 K449.1
      have kz := Nat.le_trans kz K449.1
      have J453 : ∀ t, Steps p.tables e below (T449.setTop (mkF m 63 #[.val (.int p1), .val (.int p2), .val (.int p3), .val (.int p4), .val (.int p5), .val (.ref b1), .val (.ref b25), .unset, .unset, .unset] [(.ref b1)])) t → Steps p.tables e below (s₁.setTop (entryFrame m #[(.int p1), (.int p2), (.int p3), (.int p4), (.int p5)] maxLocals)) t := fun t k => J451 t (by
          show Steps p.tables e below (T449.setTop (mkF m 61 #[.val (.int p1), .val (.int p2), .val (.int p3), .val (.int p4), .val (.int p5), .val (.ref b1), .val (.ref b25), .unset, .unset, .unset] [])) _
          refine XS.aload X449.here hx rfl (hb hby at_61) rfl rfl ?_
          exact k)
      obtain ⟨cq454, kq454, q454a, q454b, q454c⟩ := isOf hZ rfl p449_1
      obtain ⟨_, _, ⟨T454, L454, k454, n454⟩, -, X454, ⟨Lc454, hQ454, l454, y454, z454⟩, st454⟩ := X449.virtualBack hx (y := (⟨"com/example/capwright/capwright/csv/CsvRow", "line", "()I"⟩ : MethodName)) (z := (⟨"com/example/capwright/capwright/csv/CsvRow", "line", "()I"⟩ : MethodName)) hown (mvT hZ (hw _ (List.mem_of_getElem? (i := 67) rfl))) (mvT hZ (hw _ (List.mem_of_getElem? (i := 68) rfl))) (notFace_of_selects (args := #[]) (mvT hZ (hw _ (List.mem_of_getElem? (i := 70) rfl)))) (mvT hZ (hw _ (List.mem_of_getElem? (i := 70) rfl))) (mvT hZ (hw _ (List.mem_of_getElem? (i := 69) rfl))) (by decide) (backOf (W := 0) (rm8 l Z a0 hw [] b1 p1 T449.heap n0 Z452 p449_4) hZ (hw _ (List.mem_of_getElem? (i := 71) rfl)) (hw _ (List.mem_of_getElem? (i := 2) rfl)) (by decide) (by decide)) q454a q454c (g := (mkF m 63 #[.val (.int p1), .val (.int p2), .val (.int p3), .val (.int p4), .val (.int p5), .val (.ref b1), .val (.ref b25), .unset, .unset, .unset] [(.ref b1)])) rfl (by rw [hml]; rfl) (Steps.refl _) (argsL := []) (rest := []) (lenOf pd_27 rfl) rfl (by show 2 * 0 + _ ≤ _; exact Nat.le_of_eq rfl) (hb hby at_63) (fun _ _ => ⟨rfl, rfl, (by decide : 7 + 0 ≤ _), (by decide : 322 + 0 ≤ _)⟩)
      dsimp only [Pt.U, Pt.locs, Pt.cells, Pt.slots] at X454 l454 y454 z454 st454 hQ454
      subst y454 z454
      obtain ⟨rfl, Nq454, e454⟩ := hQ454
      have N455 : Fr n0 L454 := by rw [l454]; exact Fr.app N450 Nq454
      have J456 : ∀ t, Steps p.tables e below (T454.setTop (mkF m 66 #[.val (.int p1), .val (.int p2), .val (.int p3), .val (.int p4), .val (.int p5), .val (.ref b1), .val (.ref b25), .unset, .unset, .unset] [(.int p1)])) t → Steps p.tables e below (s₁.setTop (entryFrame m #[(.int p1), (.int p2), (.int p3), (.int p4), (.int p5)] maxLocals)) t := fun t k => J453 t (st454.trans k)
      have J457 : ∀ t, Steps p.tables e below (T454.setTop (mkF m 72 #[.val (.int p1), .val (.int p2), .val (.int p3), .val (.int p4), .val (.int p5), .val (.ref b1), .val (.ref b25), .unset, .unset, .unset] [(.ref b1)])) t → Steps p.tables e below (s₁.setTop (entryFrame m #[(.int p1), (.int p2), (.int p3), (.int p4), (.int p5)] maxLocals)) t := fun t k => J456 t (by
          show Steps p.tables e below (T454.setTop (mkF m 66 #[.val (.int p1), .val (.int p2), .val (.int p3), .val (.int p4), .val (.int p5), .val (.ref b1), .val (.ref b25), .unset, .unset, .unset] [(.int p1)])) _
          refine XS.iloadN X454.here hx rfl (hb hby at_66) rfl ?_
          show Steps p.tables e below (T454.setTop (mkF m 67 #[.val (.int p1), .val (.int p2), .val (.int p3), .val (.int p4), .val (.int p5), .val (.ref b1), .val (.ref b25), .unset, .unset, .unset] [(.int p1), (.int p1)])) _
          refine XS.icmpNo X454.here hx rfl (hb hby at_67) rfl (teq rfl).2 ?_
          show Steps p.tables e below (T454.setTop (mkF m 70 #[.val (.int p1), .val (.int p2), .val (.int p3), .val (.int p4), .val (.int p5), .val (.ref b1), .val (.ref b25), .unset, .unset, .unset] [])) _
          refine XS.aload X454.here hx rfl (hb hby at_70) rfl rfl ?_
          exact k)
      obtain ⟨cq458, kq458, q458a, q458b, q458c⟩ := isOf hZ e454 p449_1
      obtain ⟨_, _, ⟨T458, L458, k458, n458⟩, -, X458, ⟨Lc458, hQ458, l458, y458, z458⟩, st458⟩ := X454.virtualBack hx (y := (⟨"com/example/capwright/capwright/csv/CsvRow", "size", "()I"⟩ : MethodName)) (z := (⟨"com/example/capwright/capwright/csv/CsvRow", "size", "()I"⟩ : MethodName)) hown (mvT hZ (hw _ (List.mem_of_getElem? (i := 72) rfl))) (mvT hZ (hw _ (List.mem_of_getElem? (i := 73) rfl))) (notFace_of_selects (args := #[]) (mvT hZ (hw _ (List.mem_of_getElem? (i := 75) rfl)))) (mvT hZ (hw _ (List.mem_of_getElem? (i := 75) rfl))) (mvT hZ (hw _ (List.mem_of_getElem? (i := 74) rfl))) (by decide) (backOf (W := 0) (rm9 l Z a0 hw [] b1 (0 : Int32) T449.heap n0 Z452 p449_5) hZ (hw _ (List.mem_of_getElem? (i := 76) rfl)) (hw _ (List.mem_of_getElem? (i := 2) rfl)) (by decide) (by decide)) q458a q458c (g := (mkF m 72 #[.val (.int p1), .val (.int p2), .val (.int p3), .val (.int p4), .val (.int p5), .val (.ref b1), .val (.ref b25), .unset, .unset, .unset] [(.ref b1)])) rfl (by rw [hml]; rfl) (Steps.refl _) (argsL := []) (rest := []) (lenOf pd_27 rfl) rfl (by show 2 * 0 + _ ≤ _; exact Nat.le_of_eq rfl) (hb hby at_72) (fun _ _ => ⟨rfl, e454, (by decide : 7 + 0 ≤ _), (by decide : 322 + 0 ≤ _)⟩)
      dsimp only [Pt.U, Pt.locs, Pt.cells, Pt.slots] at X458 l458 y458 z458 st458 hQ458
      subst y458 z458
      obtain ⟨rfl, Nq458, e458⟩ := hQ458
      have N459 : Fr n0 L458 := by rw [l458]; exact Fr.app N455 Nq458
      have J460 : ∀ t, Steps p.tables e below (T458.setTop (mkF m 75 #[.val (.int p1), .val (.int p2), .val (.int p3), .val (.int p4), .val (.int p5), .val (.ref b1), .val (.ref b25), .unset, .unset, .unset] [(.int (0 : Int32))])) t → Steps p.tables e below (s₁.setTop (entryFrame m #[(.int p1), (.int p2), (.int p3), (.int p4), (.int p5)] maxLocals)) t := fun t k => J457 t (st458.trans k)
      have J461 : ∀ t, Steps p.tables e below (T458.setTop (mkF m 86 #[.val (.int p1), .val (.int p2), .val (.int p3), .val (.int p4), .val (.int p5), .val (.ref b1), .val (.ref b25), .val (.int (1 : Int32)), .unset, .unset] [(.int (1 : Int32))])) t → Steps p.tables e below (s₁.setTop (entryFrame m #[(.int p1), (.int p2), (.int p3), (.int p4), (.int p5)] maxLocals)) t := fun t k => J460 t (by
          show Steps p.tables e below (T458.setTop (mkF m 75 #[.val (.int p1), .val (.int p2), .val (.int p3), .val (.int p4), .val (.int p5), .val (.ref b1), .val (.ref b25), .unset, .unset, .unset] [(.int (0 : Int32))])) _
          refine XS.ifNo X458.here hx rfl (hb hby at_75) rfl ((if0 _ _).trans (teq (by decide)).2) ?_
          show Steps p.tables e below (T458.setTop (mkF m 78 #[.val (.int p1), .val (.int p2), .val (.int p3), .val (.int p4), .val (.int p5), .val (.ref b1), .val (.ref b25), .unset, .unset, .unset] [])) _
          refine XS.iconst X458.here hx rfl (hb hby at_78) ?_
          show Steps p.tables e below (T458.setTop (mkF m 79 #[.val (.int p1), .val (.int p2), .val (.int p3), .val (.int p4), .val (.int p5), .val (.ref b1), .val (.ref b25), .unset, .unset, .unset] [(.int (1 : Int32))])) _
          refine XS.goto X458.here hx rfl (pc0 := 79) (pc' := 83) rfl (hb hby at_79) (by decide) (by decide) ?_
          show Steps p.tables e below (T458.setTop (mkF m 83 #[.val (.int p1), .val (.int p2), .val (.int p3), .val (.int p4), .val (.int p5), .val (.ref b1), .val (.ref b25), .unset, .unset, .unset] [(.int (1 : Int32))])) _
          refine XS.istore X458.here hx rfl (hb hby at_83) rfl (l' := #[.val (.int p1), .val (.int p2), .val (.int p3), .val (.int p4), .val (.int p5), .val (.ref b1), .val (.ref b25), .val (.int (1 : Int32)), .unset, .unset]) rfl ?_
          show Steps p.tables e below (T458.setTop (mkF m 85 #[.val (.int p1), .val (.int p2), .val (.int p3), .val (.int p4), .val (.int p5), .val (.ref b1), .val (.ref b25), .val (.int (1 : Int32)), .unset, .unset] [])) _
          refine XS.iconst X458.here hx rfl (hb hby at_85) ?_
          exact k)
      have f463 := p77_7.keep K327 (ninS (Ne.symm p20_13) (ninS p20_15 nin0))
      have f464 := f463.keep K449 (ninS (Ne.symm p20_13) nin0)
      have f465 : Arr Z T449.heap ea_20 ecl'_327 .int := ⟨K449.2.1 _ _ p327_7.1 (ninS (Ne.symm p20_14) nin0), p327_7.2⟩
      have f466 := Av43.keep K77 (ninS (Ne.symm ne27) (ninS (Ne.symm ne28) nin0))
      have f467 := f466.keep K327 (ninS (Ne.symm ne27) (ninS (Ne.symm ne29) nin0))
      have f468 := f467.keep K449 (ninS (Ne.symm ne27) nin0)
      obtain ⟨T462, h462, k462, X462, e462, E462, A462, st462⟩ := newP X458 hx hZ (hw _ (List.mem_of_getElem? (i := 20) rfl)) e458 (g := (mkF m 86 #[.val (.int p1), .val (.int p2), .val (.int p3), .val (.int p4), .val (.int p5), .val (.ref b1), .val (.ref b25), .val (.int (1 : Int32)), .unset, .unset] [(.int (1 : Int32))])) rfl (hb hby at_86) rfl (by decide) (cap := 1) (by decide) (by decide) (by decide) (by decide)
      obtain ⟨b462, g462⟩ : ∃ z, z = T449.heap.size := ⟨_, rfl⟩
      rw [← g462] at A462 st462
      obtain ⟨cl462, hcl462⟩ : ∃ z, z = newA k462 .char (1 : Int32) := ⟨_, rfl⟩
      have Aw462 : Arr Z h462 b462 cl462 .char := by rw [hcl462]; exact A462
      have J469 : ∀ t, Steps p.tables e below (T462.setTop (mkF m 88 #[.val (.int p1), .val (.int p2), .val (.int p3), .val (.int p4), .val (.int p5), .val (.ref b1), .val (.ref b25), .val (.int (1 : Int32)), .unset, .unset] [(.ref b462)])) t → Steps p.tables e below (s₁.setTop (entryFrame m #[(.int p1), (.int p2), (.int p3), (.int p4), (.int p5)] maxLocals)) t := fun t k => J461 t (st462 t k)
      have ne470 : b1 ≠ b462 := Nat.ne_of_lt (Nat.lt_of_lt_of_le p449_1.lt (Nat.le_of_eq g462.symm))
      have ne471 : ca_20 ≠ b462 := Nat.ne_of_lt (Nat.lt_of_lt_of_le f464.lt (Nat.le_of_eq g462.symm))
      have ne472 : ea_20 ≠ b462 := Nat.ne_of_lt (Nat.lt_of_lt_of_le f465.lt (Nat.le_of_eq g462.symm))
      have ne473 : b25 ≠ b462 := Nat.ne_of_lt (Nat.lt_of_lt_of_le f468.lt (Nat.le_of_eq g462.symm))
      have ge474 : n0 ≤ b462 := Nat.le_trans Z452 (Nat.le_of_eq g462.symm)
      have Z475 : n0 ≤ h462.size := Nat.le_trans Z452 E462.1
      have kz := Nat.le_trans kz E462.1
      have hS462 : cl462.slots.size = (1 : Int32).toNatClampNeg := by rw [hcl462, sz_new]
      have hG462 := own_G_new hcl462
      have J476 : ∀ t, Steps p.tables e below (T462.setTop (mkF m 92 #[.val (.int p1), .val (.int p2), .val (.int p3), .val (.int p4), .val (.int p5), .val (.ref b1), .val (.ref b25), .val (.int (1 : Int32)), .unset, .unset] [(.int (p4.toUInt32.toUInt16.toUInt32.toInt32)), (.int (0 : Int32)), (.ref b462), (.ref b462)])) t → Steps p.tables e below (s₁.setTop (entryFrame m #[(.int p1), (.int p2), (.int p3), (.int p4), (.int p5)] maxLocals)) t := fun t k => J469 t (by
          show Steps p.tables e below (T462.setTop (mkF m 88 #[.val (.int p1), .val (.int p2), .val (.int p3), .val (.int p4), .val (.int p5), .val (.ref b1), .val (.ref b25), .val (.int (1 : Int32)), .unset, .unset] [(.ref b462)])) _
          refine XS.dup X462.here hx rfl (hb hby at_88) rfl rfl ?_
          show Steps p.tables e below (T462.setTop (mkF m 89 #[.val (.int p1), .val (.int p2), .val (.int p3), .val (.int p4), .val (.int p5), .val (.ref b1), .val (.ref b25), .val (.int (1 : Int32)), .unset, .unset] [(.ref b462), (.ref b462)])) _
          refine XS.iconst X462.here hx rfl (hb hby at_89) ?_
          show Steps p.tables e below (T462.setTop (mkF m 90 #[.val (.int p1), .val (.int p2), .val (.int p3), .val (.int p4), .val (.int p5), .val (.ref b1), .val (.ref b25), .val (.int (1 : Int32)), .unset, .unset] [(.int (0 : Int32)), (.ref b462), (.ref b462)])) _
          refine XS.iloadN X462.here hx rfl (hb hby at_90) rfl ?_
          show Steps p.tables e below (T462.setTop (mkF m 91 #[.val (.int p1), .val (.int p2), .val (.int p3), .val (.int p4), .val (.int p5), .val (.ref b1), .val (.ref b25), .val (.int (1 : Int32)), .unset, .unset] [(.int p4), (.int (0 : Int32)), (.ref b462), (.ref b462)])) _
          refine XS.i2c X462.here hx rfl (hb hby at_91) rfl ?_
          exact k)
      have J477 : ∀ t, Steps p.tables e below (T462.setTop (mkF m 92 #[.val (.int p1), .val (.int p2), .val (.int p3), .val (.int p4), .val (.int p5), .val (.ref b1), .val (.ref b25), .val (.int (1 : Int32)), .unset, .unset] [(.int ch), (.int (0 : Int32)), (.ref b462), (.ref b462)])) t → Steps p.tables e below (s₁.setTop (entryFrame m #[(.int p1), (.int p2), (.int p3), (.int p4), (.int p5)] maxLocals)) t := fun t k => J476 t (by rw [hch0] at k; exact k)
      obtain ⟨T478, h478, X478, e478, W478, st478⟩ := stC X462 hx hZ e462 Aw462 (j := (0 : Int32)) (own_in hS462 (by decide) (by decide)) (g := (mkF m 92 #[.val (.int p1), .val (.int p2), .val (.int p3), .val (.int p4), .val (.int p5), .val (.ref b1), .val (.ref b25), .val (.int (1 : Int32)), .unset, .unset] [(.int ch), (.int (0 : Int32)), (.ref b462), (.ref b462)])) rfl rfl (hb hby at_92)
      have J479 : ∀ t, Steps p.tables e below (T478.setTop (mkF m 93 #[.val (.int p1), .val (.int p2), .val (.int p3), .val (.int p4), .val (.int p5), .val (.ref b1), .val (.ref b25), .val (.int (1 : Int32)), .unset, .unset] [(.ref b462)])) t → Steps p.tables e below (s₁.setTop (entryFrame m #[(.int p1), (.int p2), (.int p3), (.int p4), (.int p5)] maxLocals)) t := fun t k => J477 t (st478 t k)
      have Z480 : n0 ≤ h478.size := Nat.le_trans Z475 (Keep.of_wr W478).1
      have kz := Nat.le_trans kz (Keep.of_wr W478).1
      have N481 := Fr.snoc X478 N459 ge474
      obtain ⟨cl478, hcl478⟩ : ∃ z, z = cl462.setSlot ((0 : Int32)).toNatClampNeg (.int (nar .char ch)) := ⟨_, rfl⟩
      have Aw478 : Arr Z h478 b462 cl478 .char := by rw [hcl478]; exact Aw462.same W478
      have hS478 := own_ssz hcl478 hS462
      have hG478 := own_G_set hG462 hcl478 (fits_nar_char _)
      have hv478 : cl478.slots[0]? = some (.int ch) := (own_same hcl478 (by decide) (by rw [hS462]; decide)).trans (by rw [own_nch hch])
      have Av478 := own_arv (dv := .int 0) Aw478 hS478 (by decide) hG478
      have J482 : ∀ t, Steps p.tables e below (T478.setTop (mkF m 101 #[.val (.int p1), .val (.int p2), .val (.int p3), .val (.int p4), .val (.int p5), .val (.ref b1), .val (.ref b25), .val (.int (1 : Int32)), .val (.ref b462), .unset] [(.int (1 : Int32)), (.int (0 : Int32)), (.ref b462), (.ref b1)])) t → Steps p.tables e below (s₁.setTop (entryFrame m #[(.int p1), (.int p2), (.int p3), (.int p4), (.int p5)] maxLocals)) t := fun t k => J479 t (by
          show Steps p.tables e below (T478.setTop (mkF m 93 #[.val (.int p1), .val (.int p2), .val (.int p3), .val (.int p4), .val (.int p5), .val (.ref b1), .val (.ref b25), .val (.int (1 : Int32)), .unset, .unset] [(.ref b462)])) _
          refine XS.astore X478.here hx rfl (hb hby at_93) rfl rfl (l' := #[.val (.int p1), .val (.int p2), .val (.int p3), .val (.int p4), .val (.int p5), .val (.ref b1), .val (.ref b25), .val (.int (1 : Int32)), .val (.ref b462), .unset]) rfl ?_
          show Steps p.tables e below (T478.setTop (mkF m 95 #[.val (.int p1), .val (.int p2), .val (.int p3), .val (.int p4), .val (.int p5), .val (.ref b1), .val (.ref b25), .val (.int (1 : Int32)), .val (.ref b462), .unset] [])) _
          refine XS.aload X478.here hx rfl (hb hby at_95) rfl rfl ?_
          show Steps p.tables e below (T478.setTop (mkF m 97 #[.val (.int p1), .val (.int p2), .val (.int p3), .val (.int p4), .val (.int p5), .val (.ref b1), .val (.ref b25), .val (.int (1 : Int32)), .val (.ref b462), .unset] [(.ref b1)])) _
          refine XS.aload X478.here hx rfl (hb hby at_97) rfl rfl ?_
          show Steps p.tables e below (T478.setTop (mkF m 99 #[.val (.int p1), .val (.int p2), .val (.int p3), .val (.int p4), .val (.int p5), .val (.ref b1), .val (.ref b25), .val (.int (1 : Int32)), .val (.ref b462), .unset] [(.ref b462), (.ref b1)])) _
          refine XS.iconst X478.here hx rfl (hb hby at_99) ?_
          show Steps p.tables e below (T478.setTop (mkF m 100 #[.val (.int p1), .val (.int p2), .val (.int p3), .val (.int p4), .val (.int p5), .val (.ref b1), .val (.ref b25), .val (.int (1 : Int32)), .val (.ref b462), .unset] [(.int (0 : Int32)), (.ref b462), (.ref b1)])) _
          refine XS.iconst X478.here hx rfl (hb hby at_100) ?_
          exact k)
      have f483 := p449_1.ext E462
      have f484 := f483.wr W478
      have f485 := p449_2.ext E462
      have f486 := f485.other W478 (Or.inl ne470)
      have f487 := p449_6.ext E462
      have f488 := f487.other W478 (Or.inl ne470)
      have f489 := f464.ext E462
      have f490 := f489.other W478 ne471
      have f491 := p449_4.ext E462
      have f492 := f491.other W478 (Or.inl ne470)
      have f493 := p449_3.ext E462
      have f494 := f493.other W478 (Or.inl ne470)
      have f495 := p449_5.ext E462
      have f496 := f495.other W478 (Or.inl ne470)
      obtain ⟨cq497, kq497, q497a, q497b, q497c⟩ := isOf hZ e478 f484
      obtain ⟨_, _, ⟨T497, L497, k497, n497⟩, -, X497, ⟨Lc497, hQ497, l497, y497, z497⟩, st497⟩ := X478.virtualBack hx (y := (⟨"com/example/capwright/capwright/csv/CsvRow", "append", "([CII)V"⟩ : MethodName)) (z := (⟨"com/example/capwright/capwright/csv/CsvRow", "append", "([CII)V"⟩ : MethodName)) hown (mvT hZ (hw _ (List.mem_of_getElem? (i := 53) rfl))) (mvT hZ (hw _ (List.mem_of_getElem? (i := 54) rfl))) (notFace_of_selects (args := #[]) (mvT hZ (hw _ (List.mem_of_getElem? (i := 56) rfl)))) (mvT hZ (hw _ (List.mem_of_getElem? (i := 56) rfl))) (mvT hZ (hw _ (List.mem_of_getElem? (i := 55) rfl))) (by decide) (backOf (W := 0) (rm6 l Z a0 hw [] b1 b462 ca_20 (1 : Int32) _ (1 : Int32) _ _ _ (.int p1) (.ref ea_20) (.int (0 : Int32)) h478 n0 Z480 f484 ge3 p20_8 f486 f488 Av478 f490 (by decide) (by decide) (Nat.le_refl _) (by decide) p77_8 p20_13 (Ne.symm ne471) ne470 f492 f494 f496) hZ (hw _ (List.mem_of_getElem? (i := 57) rfl)) (hw _ (List.mem_of_getElem? (i := 2) rfl)) (by decide) (by decide)) q497a q497c (g := (mkF m 101 #[.val (.int p1), .val (.int p2), .val (.int p3), .val (.int p4), .val (.int p5), .val (.ref b1), .val (.ref b25), .val (.int (1 : Int32)), .val (.ref b462), .unset] [(.int (1 : Int32)), (.int (0 : Int32)), (.ref b462), (.ref b1)])) rfl (by rw [hml]; rfl) (Steps.refl _) (argsL := [(.ref b462), (.int (0 : Int32)), (.int (1 : Int32))]) (rest := []) (lenOf pd_19 rfl) rfl (by show 2 * 0 + _ ≤ _; exact Nat.le_of_eq rfl) (hb hby at_101) (fun _ _ => ⟨rfl, e478, (by decide : 8 + 0 ≤ _), (by decide : 323 + 0 ≤ _)⟩)
      dsimp only [Pt.U, Pt.locs, Pt.cells, Pt.slots] at X497 l497 y497 z497 st497 hQ497
      subst y497 z497
      obtain ⟨vd'_497, rfl, Nq497, K497, p497_1, p497_2, p497_3, p497_4, p497_5, p497_6, p497_7, p497_8, p497_9⟩ := hQ497
      have N498 : Fr n0 L497 := by rw [l497]; exact Fr.app N481 Nq497
      have J499 : ∀ t, Steps p.tables e below (T497.setTop (mkF m 104 #[.val (.int p1), .val (.int p2), .val (.int p3), .val (.int p4), .val (.int p5), .val (.ref b1), .val (.ref b25), .val (.int (1 : Int32)), .val (.ref b462), .unset] [])) t → Steps p.tables e below (s₁.setTop (entryFrame m #[(.int p1), (.int p2), (.int p3), (.int p4), (.int p5)] maxLocals)) t := fun t k => J482 t (st497.trans k)
      have Z500 : n0 ≤ T497.heap.size := Nat.le_trans Z480 K497.1
      have kz := Nat.le_trans kz K497.1
      have J501 : ∀ t, Steps p.tables e below (T497.setTop (mkF m 106 #[.val (.int p1), .val (.int p2), .val (.int p3), .val (.int p4), .val (.int p5), .val (.ref b1), .val (.ref b25), .val (.int (1 : Int32)), .val (.ref b462), .unset] [(.ref b1)])) t → Steps p.tables e below (s₁.setTop (entryFrame m #[(.int p1), (.int p2), (.int p3), (.int p4), (.int p5)] maxLocals)) t := fun t k => J499 t (by
          show Steps p.tables e below (T497.setTop (mkF m 104 #[.val (.int p1), .val (.int p2), .val (.int p3), .val (.int p4), .val (.int p5), .val (.ref b1), .val (.ref b25), .val (.int (1 : Int32)), .val (.ref b462), .unset] [])) _
          refine XS.aload X497.here hx rfl (hb hby at_104) rfl rfl ?_
          exact k)
      have f502 := f465.ext E462
      have f503 := f502.other W478 ne472
      have f504 : Arr Z T497.heap ea_20 ecl'_327 .int := ⟨K497.2.1 _ _ f503.1 (ninS (Ne.symm p20_14) (ninS (Ne.symm p20_15) nin0)), f503.2⟩
      obtain ⟨cq505, kq505, q505a, q505b, q505c⟩ := isOf hZ rfl p497_1
      obtain ⟨_, _, ⟨T505, L505, k505, n505⟩, -, X505, ⟨Lc505, hQ505, l505, y505, z505⟩, st505⟩ := X497.virtualBack hx (y := (⟨"com/example/capwright/capwright/csv/CsvRow", "endField", "()V"⟩ : MethodName)) (z := (⟨"com/example/capwright/capwright/csv/CsvRow", "endField", "()V"⟩ : MethodName)) hown (mvT hZ (hw _ (List.mem_of_getElem? (i := 77) rfl))) (mvT hZ (hw _ (List.mem_of_getElem? (i := 78) rfl))) (notFace_of_selects (args := #[]) (mvT hZ (hw _ (List.mem_of_getElem? (i := 80) rfl)))) (mvT hZ (hw _ (List.mem_of_getElem? (i := 80) rfl))) (mvT hZ (hw _ (List.mem_of_getElem? (i := 79) rfl))) (by decide) (backOf (W := 0) (rm10 l Z a0 hw [] b1 ea_20 ecl'_327 (1 : Int32) (.ref ca_20) (.int p1) T497.heap n0 Z500 p497_1 ge3 p497_2 p497_3 p497_4 p497_5 p497_6 f504 p20_10 p327_8 p20_14) hZ (hw _ (List.mem_of_getElem? (i := 81) rfl)) (hw _ (List.mem_of_getElem? (i := 2) rfl)) (by decide) (by decide)) q505a q505c (g := (mkF m 106 #[.val (.int p1), .val (.int p2), .val (.int p3), .val (.int p4), .val (.int p5), .val (.ref b1), .val (.ref b25), .val (.int (1 : Int32)), .val (.ref b462), .unset] [(.ref b1)])) rfl (by rw [hml]; rfl) (Steps.refl _) (argsL := []) (rest := []) (lenOf pd_3 rfl) rfl (by show 2 * 0 + _ ≤ _; exact Nat.le_of_eq rfl) (hb hby at_106) (fun _ _ => ⟨rfl, rfl, (by decide : 8 + 0 ≤ _), (by decide : 323 + 0 ≤ _)⟩)
      dsimp only [Pt.U, Pt.locs, Pt.cells, Pt.slots] at X505 l505 y505 z505 st505 hQ505
      subst y505 z505
      obtain ⟨ecl'_505, rfl, Nq505, K505, p505_1, p505_2, p505_3, p505_4, p505_5, p505_6, p505_7, p505_8, p505_9⟩ := hQ505
      have N506 : Fr n0 L505 := by rw [l505]; exact Fr.app N498 Nq505
      have J507 : ∀ t, Steps p.tables e below (T505.setTop (mkF m 109 #[.val (.int p1), .val (.int p2), .val (.int p3), .val (.int p4), .val (.int p5), .val (.ref b1), .val (.ref b25), .val (.int (1 : Int32)), .val (.ref b462), .unset] [])) t → Steps p.tables e below (s₁.setTop (entryFrame m #[(.int p1), (.int p2), (.int p3), (.int p4), (.int p5)] maxLocals)) t := fun t k => J501 t (st505.trans k)
      have Z508 : n0 ≤ T505.heap.size := Nat.le_trans Z500 K505.1
      have kz := Nat.le_trans kz K505.1
      have J509 : ∀ t, Steps p.tables e below (T505.setTop (mkF m 111 #[.val (.int p1), .val (.int p2), .val (.int p3), .val (.int p4), .val (.int p5), .val (.ref b1), .val (.ref b25), .val (.int (1 : Int32)), .val (.ref b462), .unset] [(.ref b1)])) t → Steps p.tables e below (s₁.setTop (entryFrame m #[(.int p1), (.int p2), (.int p3), (.int p4), (.int p5)] maxLocals)) t := fun t k => J507 t (by
          show Steps p.tables e below (T505.setTop (mkF m 109 #[.val (.int p1), .val (.int p2), .val (.int p3), .val (.int p4), .val (.int p5), .val (.ref b1), .val (.ref b25), .val (.int (1 : Int32)), .val (.ref b462), .unset] [])) _
          refine XS.aload X505.here hx rfl (hb hby at_109) rfl rfl ?_
          exact k)
      have f511 := p497_7.keep K505 (ninS (Ne.symm p20_13) (ninS p20_15 nin0))
      obtain ⟨cc510, Ac510, qk510, Sc510, hz510, Hc510, Gc510⟩ := id f511
      have hcz510 : cc510.slots.size = 256 := Sc510.trans (by decide)
      have hc0510 : cc510.slots[0]? = some (.int ch) := own_has0 Hc510 (by rw [hcz510]; decide) ((p497_9 rfl).trans (own_getD hv478))
      have f512 := f11.keep K20 (allS ge3 all0)
      have f513 := f512.ext E25
      have f514 := f513.wr W33 ge30
      have f515 := f514.wr W38 ge30
      have f516 := f515.wr W43 ge30
      have f517 := f516.keep K77 (allS ge3 (allS p20_8 all0))
      have f518 := f517.keep K327 (allS ge3 (allS p20_10 all0))
      have f519 := f518.keep K449 (allS ge3 all0)
      have f520 := f519.ext E462
      have f521 := f520.wr W478 ge474
      have f522 := f521.keep K497 (allS ge3 (allS p20_8 all0))
      have f523 := f522.keep K505 (allS ge3 (allS p20_10 all0))
      obtain ⟨cq524, kq524, q524a, q524b, q524c⟩ := isOf hZ rfl p505_1
      obtain ⟨_, _, ⟨T524, L524, k524, n524⟩, -, X524, ⟨Lc524, hQ524, l524, y524, z524⟩, st524⟩ := X505.virtualBack hx (y := (⟨"com/example/capwright/capwright/csv/CsvRow", "fields", "()Ljava/util/List;"⟩ : MethodName)) (z := (⟨"com/example/capwright/capwright/csv/CsvRow", "fields", "()Ljava/util/List;"⟩ : MethodName)) hown (mvT hZ (hw _ (List.mem_of_getElem? (i := 82) rfl))) (mvT hZ (hw _ (List.mem_of_getElem? (i := 83) rfl))) (notFace_of_selects (args := #[]) (mvT hZ (hw _ (List.mem_of_getElem? (i := 85) rfl)))) (mvT hZ (hw _ (List.mem_of_getElem? (i := 85) rfl))) (mvT hZ (hw _ (List.mem_of_getElem? (i := 84) rfl))) (by decide) (backOf (W := 0) (rm11L l Z a0 hw [] b1 ca_20 cc510 ch ea_20 ecl'_505 cs fm T505.heap n0 Z508 p505_1 p505_5 p505_2 p505_4 Ac510 hcz510 hc0510 p505_7 p505_8 p505_9 hk f523 Zc (by assumption) Zf (by assumption)) hZ (hw _ (List.mem_of_getElem? (i := 86) rfl)) (hw _ (List.mem_of_getElem? (i := 2) rfl)) (by decide) (by decide)) q524a q524c (g := (mkF m 111 #[.val (.int p1), .val (.int p2), .val (.int p3), .val (.int p4), .val (.int p5), .val (.ref b1), .val (.ref b25), .val (.int (1 : Int32)), .val (.ref b462), .unset] [(.ref b1)])) rfl (by rw [hml]; rfl) (Steps.refl _) (argsL := []) (rest := []) (lenOf pd_28 rfl) rfl (by show 2 * 0 + _ ≤ _; exact Nat.le_of_eq rfl) (hb hby at_111) (fun _ _ => ⟨rfl, rfl, (by decide : 8 + 4 ≤ _), (by decide : 323 + 9 ≤ _)⟩)
      dsimp only [Pt.U, Pt.locs, Pt.cells, Pt.slots] at X524 l524 y524 z524 st524 hQ524
      subst y524 z524
      obtain ⟨lst_524, el_524, lcl_524, st_524, ba_524, bcl_524, rfl, Nq524, K524, p524_1, p524_2, p524_3, p524_4, p524_5, p524_6, p524_7, p524_8, p524_9, p524_10, p524_11, p524_12⟩ := hQ524
      have N525 : Fr n0 L524 := by rw [l524]; exact Fr.app N506 Nq524
      have J526 : ∀ t, Steps p.tables e below (T524.setTop (mkF m 114 #[.val (.int p1), .val (.int p2), .val (.int p3), .val (.int p4), .val (.int p5), .val (.ref b1), .val (.ref b25), .val (.int (1 : Int32)), .val (.ref b462), .unset] [(.ref lst_524)])) t → Steps p.tables e below (s₁.setTop (entryFrame m #[(.int p1), (.int p2), (.int p3), (.int p4), (.int p5)] maxLocals)) t := fun t k => J509 t (st524.trans k)
      have Z527 : n0 ≤ T524.heap.size := Nat.le_trans Z508 K524.1
      have kz := Nat.le_trans kz K524.1
      have J528 : ∀ t, Steps p.tables e below (T524.setTop (mkF m 123 #[.val (.int p1), .val (.int p2), .val (.int p3), .val (.int p4), .val (.int p5), .val (.ref b1), .val (.ref b25), .val (.int (1 : Int32)), .val (.ref b462), .val (.ref lst_524)] [(.ref lst_524)])) t → Steps p.tables e below (s₁.setTop (entryFrame m #[(.int p1), (.int p2), (.int p3), (.int p4), (.int p5)] maxLocals)) t := fun t k => J526 t (by
          show Steps p.tables e below (T524.setTop (mkF m 114 #[.val (.int p1), .val (.int p2), .val (.int p3), .val (.int p4), .val (.int p5), .val (.ref b1), .val (.ref b25), .val (.int (1 : Int32)), .val (.ref b462), .unset] [(.ref lst_524)])) _
          refine XS.astore X524.here hx rfl (hb hby at_114) rfl rfl (l' := #[.val (.int p1), .val (.int p2), .val (.int p3), .val (.int p4), .val (.int p5), .val (.ref b1), .val (.ref b25), .val (.int (1 : Int32)), .val (.ref b462), .val (.ref lst_524)]) rfl ?_
          show Steps p.tables e below (T524.setTop (mkF m 116 #[.val (.int p1), .val (.int p2), .val (.int p3), .val (.int p4), .val (.int p5), .val (.ref b1), .val (.ref b25), .val (.int (1 : Int32)), .val (.ref b462), .val (.ref lst_524)] [])) _
          refine XS.iload X524.here hx rfl (hb hby at_116) rfl ?_
          show Steps p.tables e below (T524.setTop (mkF m 118 #[.val (.int p1), .val (.int p2), .val (.int p3), .val (.int p4), .val (.int p5), .val (.ref b1), .val (.ref b25), .val (.int (1 : Int32)), .val (.ref b462), .val (.ref lst_524)] [(.int (1 : Int32))])) _
          refine XS.ifNo X524.here hx rfl (hb hby at_118) rfl ((if0 _ _).trans (feq (by decide)).1) ?_
          show Steps p.tables e below (T524.setTop (mkF m 121 #[.val (.int p1), .val (.int p2), .val (.int p3), .val (.int p4), .val (.int p5), .val (.ref b1), .val (.ref b25), .val (.int (1 : Int32)), .val (.ref b462), .val (.ref lst_524)] [])) _
          refine XS.aload X524.here hx rfl (hb hby at_121) rfl rfl ?_
          exact k)
      obtain ⟨cq529, kq529, q529a, q529b, q529c⟩ := isOf hZ rfl p524_1
      obtain ⟨_, _, ⟨T529, L529, k529, n529⟩, -, X529, ⟨Lc529, hQ529, l529, y529, z529⟩, st529⟩ := X524.interfaceBack hx (xi := (⟨"java/util/List", "size", "()I"⟩ : MethodName)) (y := (⟨"java/util/ArrayList", "size", "()I"⟩ : MethodName)) hown (mvT hZ (hw _ (List.mem_of_getElem? (i := 164) rfl))) (mvT hZ (hw _ (List.mem_of_getElem? (i := 165) rfl))) (mvT hZ (hw _ (List.mem_of_getElem? (i := 166) rfl))) (mvT hZ (hw _ (List.mem_of_getElem? (i := 167) rfl))) (mvT hZ (hw _ (List.mem_of_getElem? (i := 168) rfl))) (mvT hZ (hw _ (List.mem_of_getElem? (i := 169) rfl))) (mvT hZ (hw _ (List.mem_of_getElem? (i := 170) rfl))) (mvT hZ (hw _ (List.mem_of_getElem? (i := 152) rfl))) (by decide) (backOf (W := 0) (rm25 l Z a0 hw [] lst_524 (1 : Int32) T524.heap n0 Z527 p524_2) hZ (hw _ (List.mem_of_getElem? (i := 171) rfl)) (hw _ (List.mem_of_getElem? (i := 89) rfl)) (by decide) (by decide)) q529a q529b q529c (g := (mkF m 123 #[.val (.int p1), .val (.int p2), .val (.int p3), .val (.int p4), .val (.int p5), .val (.ref b1), .val (.ref b25), .val (.int (1 : Int32)), .val (.ref b462), .val (.ref lst_524)] [(.ref lst_524)])) rfl (by rw [hml]; rfl) (Steps.refl _) (argsL := []) (rest := []) (lenOf pd_27 rfl) rfl (by show 2 * 0 + _ ≤ _; exact Nat.le_of_eq rfl) (hb hby at_123) (fun _ _ => ⟨rfl, rfl, (by decide : 12 + 0 ≤ _), (by decide : 332 + 0 ≤ _)⟩)
      dsimp only [Pt.U, Pt.locs, Pt.cells, Pt.slots] at X529 l529 y529 z529 st529 hQ529
      subst y529 z529
      obtain ⟨rfl, Nq529, e529⟩ := hQ529
      have N530 : Fr n0 L529 := by rw [l529]; exact Fr.app N525 Nq529
      have J531 : ∀ t, Steps p.tables e below (T529.setTop (mkF m 128 #[.val (.int p1), .val (.int p2), .val (.int p3), .val (.int p4), .val (.int p5), .val (.ref b1), .val (.ref b25), .val (.int (1 : Int32)), .val (.ref b462), .val (.ref lst_524)] [(.int (1 : Int32))])) t → Steps p.tables e below (s₁.setTop (entryFrame m #[(.int p1), (.int p2), (.int p3), (.int p4), (.int p5)] maxLocals)) t := fun t k => J528 t (st529.trans k)
      have J532 : ∀ t, Steps p.tables e below (T529.setTop (mkF m 135 #[.val (.int p1), .val (.int p2), .val (.int p3), .val (.int p4), .val (.int p5), .val (.ref b1), .val (.ref b25), .val (.int (1 : Int32)), .val (.ref b462), .val (.ref lst_524)] [(.int (0 : Int32)), (.ref lst_524)])) t → Steps p.tables e below (s₁.setTop (entryFrame m #[(.int p1), (.int p2), (.int p3), (.int p4), (.int p5)] maxLocals)) t := fun t k => J531 t (by
          show Steps p.tables e below (T529.setTop (mkF m 128 #[.val (.int p1), .val (.int p2), .val (.int p3), .val (.int p4), .val (.int p5), .val (.ref b1), .val (.ref b25), .val (.int (1 : Int32)), .val (.ref b462), .val (.ref lst_524)] [(.int (1 : Int32))])) _
          refine XS.iconst X529.here hx rfl (hb hby at_128) ?_
          show Steps p.tables e below (T529.setTop (mkF m 129 #[.val (.int p1), .val (.int p2), .val (.int p3), .val (.int p4), .val (.int p5), .val (.ref b1), .val (.ref b25), .val (.int (1 : Int32)), .val (.ref b462), .val (.ref lst_524)] [(.int (1 : Int32)), (.int (1 : Int32))])) _
          refine XS.icmpNo X529.here hx rfl (hb hby at_129) rfl (teq rfl).2 ?_
          show Steps p.tables e below (T529.setTop (mkF m 132 #[.val (.int p1), .val (.int p2), .val (.int p3), .val (.int p4), .val (.int p5), .val (.ref b1), .val (.ref b25), .val (.int (1 : Int32)), .val (.ref b462), .val (.ref lst_524)] [])) _
          refine XS.aload X529.here hx rfl (hb hby at_132) rfl rfl ?_
          show Steps p.tables e below (T529.setTop (mkF m 134 #[.val (.int p1), .val (.int p2), .val (.int p3), .val (.int p4), .val (.int p5), .val (.ref b1), .val (.ref b25), .val (.int (1 : Int32)), .val (.ref b462), .val (.ref lst_524)] [(.ref lst_524)])) _
          refine XS.iconst X529.here hx rfl (hb hby at_134) ?_
          exact k)
      obtain ⟨cq533, kq533, q533a, q533b, q533c⟩ := isOf hZ e529 p524_1
      obtain ⟨_, _, ⟨T533, L533, k533, n533⟩, -, X533, ⟨Lc533, hQ533, l533, y533, z533⟩, st533⟩ := X529.interfaceBack hx (xi := (⟨"java/util/List", "get", "(I)Ljava/lang/Object;"⟩ : MethodName)) (y := (⟨"java/util/ArrayList", "get", "(I)Ljava/lang/Object;"⟩ : MethodName)) hown (mvT hZ (hw _ (List.mem_of_getElem? (i := 172) rfl))) (mvT hZ (hw _ (List.mem_of_getElem? (i := 173) rfl))) (mvT hZ (hw _ (List.mem_of_getElem? (i := 174) rfl))) (mvT hZ (hw _ (List.mem_of_getElem? (i := 175) rfl))) (mvT hZ (hw _ (List.mem_of_getElem? (i := 176) rfl))) (mvT hZ (hw _ (List.mem_of_getElem? (i := 177) rfl))) (mvT hZ (hw _ (List.mem_of_getElem? (i := 178) rfl))) (mvT hZ (hw _ (List.mem_of_getElem? (i := 152) rfl))) (by decide) (backOf (W := 0) (rm26 l Z a0 hw [] lst_524 st_524 el_524 lcl_524 T524.heap n0 Z527 p524_1 p524_4 p524_5 p524_6 p524_3 p524_2) hZ (hw _ (List.mem_of_getElem? (i := 179) rfl)) (hw _ (List.mem_of_getElem? (i := 89) rfl)) (by decide) (by decide)) q533a q533b q533c (g := (mkF m 135 #[.val (.int p1), .val (.int p2), .val (.int p3), .val (.int p4), .val (.int p5), .val (.ref b1), .val (.ref b25), .val (.int (1 : Int32)), .val (.ref b462), .val (.ref lst_524)] [(.int (0 : Int32)), (.ref lst_524)])) rfl (by rw [hml]; rfl) (Steps.refl _) (argsL := [(.int (0 : Int32))]) (rest := []) (lenOf pd_7 rfl) rfl (by show 2 * 0 + _ ≤ _; exact Nat.le_of_eq rfl) (hb hby at_135) (fun _ _ => ⟨rfl, e529, (by decide : 12 + 0 ≤ _), (by decide : 332 + 0 ≤ _)⟩)
      dsimp only [Pt.U, Pt.locs, Pt.cells, Pt.slots] at X533 l533 y533 z533 st533 hQ533
      subst y533 z533
      obtain ⟨rfl, Nq533, e533⟩ := hQ533
      have N534 : Fr n0 L533 := by rw [l533]; exact Fr.app N530 Nq533
      have J535 : ∀ t, Steps p.tables e below (T533.setTop (mkF m 140 #[.val (.int p1), .val (.int p2), .val (.int p3), .val (.int p4), .val (.int p5), .val (.ref b1), .val (.ref b25), .val (.int (1 : Int32)), .val (.ref b462), .val (.ref lst_524)] [(.ref st_524)])) t → Steps p.tables e below (s₁.setTop (entryFrame m #[(.int p1), (.int p2), (.int p3), (.int p4), (.int p5)] maxLocals)) t := fun t k => J532 t (st533.trans k)
      obtain ⟨T536, X536, e536, st536⟩ := castY X533 hx hZ hown (hw _ (List.mem_of_getElem? (i := 192) rfl)) e533 (Ins.self p524_7) (g := (mkF m 140 #[.val (.int p1), .val (.int p2), .val (.int p3), .val (.int p4), .val (.int p5), .val (.ref b1), .val (.ref b25), .val (.int (1 : Int32)), .val (.ref b462), .val (.ref lst_524)] [(.ref st_524)])) rfl rfl (hb hby at_140)
      have J537 : ∀ t, Steps p.tables e below (T536.setTop (mkF m 143 #[.val (.int p1), .val (.int p2), .val (.int p3), .val (.int p4), .val (.int p5), .val (.ref b1), .val (.ref b25), .val (.int (1 : Int32)), .val (.ref b462), .val (.ref lst_524)] [(.ref st_524)])) t → Steps p.tables e below (s₁.setTop (entryFrame m #[(.int p1), (.int p2), (.int p3), (.int p4), (.int p5)] maxLocals)) t := fun t k => J535 t (st536 t k)
      have J538 : ∀ t, Steps p.tables e below (T536.setTop (mkF m 145 #[.val (.int p1), .val (.int p2), .val (.int p3), .val (.int p4), .val (.int p5), .val (.ref b1), .val (.ref b25), .val (.int (1 : Int32)), .val (.ref b462), .val (.ref lst_524)] [(.int (p4.toUInt32.toUInt16.toUInt32.toInt32)), (.ref st_524)])) t → Steps p.tables e below (s₁.setTop (entryFrame m #[(.int p1), (.int p2), (.int p3), (.int p4), (.int p5)] maxLocals)) t := fun t k => J537 t (by
          show Steps p.tables e below (T536.setTop (mkF m 143 #[.val (.int p1), .val (.int p2), .val (.int p3), .val (.int p4), .val (.int p5), .val (.ref b1), .val (.ref b25), .val (.int (1 : Int32)), .val (.ref b462), .val (.ref lst_524)] [(.ref st_524)])) _
          refine XS.iloadN X536.here hx rfl (hb hby at_143) rfl ?_
          show Steps p.tables e below (T536.setTop (mkF m 144 #[.val (.int p1), .val (.int p2), .val (.int p3), .val (.int p4), .val (.int p5), .val (.ref b1), .val (.ref b25), .val (.int (1 : Int32)), .val (.ref b462), .val (.ref lst_524)] [(.int p4), (.ref st_524)])) _
          refine XS.i2c X536.here hx rfl (hb hby at_144) rfl ?_
          exact k)
      have J539 : ∀ t, Steps p.tables e below (T536.setTop (mkF m 145 #[.val (.int p1), .val (.int p2), .val (.int p3), .val (.int p4), .val (.int p5), .val (.ref b1), .val (.ref b25), .val (.int (1 : Int32)), .val (.ref b462), .val (.ref lst_524)] [(.int ch), (.ref st_524)])) t → Steps p.tables e below (s₁.setTop (entryFrame m #[(.int p1), (.int p2), (.int p3), (.int p4), (.int p5)] maxLocals)) t := fun t k => J538 t (by rw [hch0] at k; exact k)
      have f540 := p505_1.keep K524
      have f541 := f511.keep K524 nin0
      have f542 : Arr Z T524.heap ea_20 ecl'_505 .int := ⟨K524.2.1 _ _ p505_7.1 nin0, p505_7.2⟩
      have f543 := f468.ext E462
      have f544 := f543.other W478 ne473
      have f545 := f544.keep K497 (ninS (Ne.symm ne27) (ninS (Ne.symm ne28) nin0))
      have f546 := f545.keep K505 (ninS (Ne.symm ne27) (ninS (Ne.symm ne29) nin0))
      have f547 := f546.keep K524 nin0
      have f548 := Av478.keep K497 (ninS (Ne.symm ne470) (ninS (Ne.symm ne471) nin0))
      have f549 := f548.keep K505 (ninS (Ne.symm ne470) (ninS (Ne.symm ne472) nin0))
      have f550 := f549.keep K524 nin0
      have f551 := f523.keep K524 all0
      obtain ⟨_, _, ⟨T552, L552, k552, n552⟩, -, X552, ⟨Lc552, hQ552, l552, y552, z552⟩, st552⟩ := Jvm.LawKit.callS X536 hx (y := (⟨"java/lang/String", "valueOf", "(C)Ljava/lang/String;"⟩ : MethodName)) hown (mvT hZ (hw _ (List.mem_of_getElem? (i := 193) rfl))) (mvT hZ (hw _ (List.mem_of_getElem? (i := 194) rfl))) (mvT hZ (hw _ (List.mem_of_getElem? (i := 4) rfl))) (mvT hZ (hw _ (List.mem_of_getElem? (i := 195) rfl))) (by decide) (backOf (W := 1) (rm30L l Z a0 hw [] ch cs T524.heap n0 Z527 hk f551 Zc (by assumption)) hZ (hw _ (List.mem_of_getElem? (i := 195) rfl)) (hw _ (List.mem_of_getElem? (i := 4) rfl)) (by decide) (by decide)) (g := (mkF m 145 #[.val (.int p1), .val (.int p2), .val (.int p3), .val (.int p4), .val (.int p5), .val (.ref b1), .val (.ref b25), .val (.int (1 : Int32)), .val (.ref b462), .val (.ref lst_524)] [(.int ch), (.ref st_524)])) rfl (by rw [hml]; rfl) (argsL := [(.int ch)]) (rest := [(.ref st_524)]) (lenOf pd_29 rfl) rfl (by show 2 * 0 + _ ≤ _; exact Nat.le_of_eq rfl) (hb hby at_145) (fun _ _ => ⟨rfl, e536, (by decide : 12 + 2 ≤ _), (by decide : 332 + 5 ≤ _)⟩)
      dsimp only [Pt.U, Pt.locs, Pt.cells, Pt.slots] at X552 l552 y552 z552 st552 hQ552
      subst y552 z552
      obtain ⟨st_552, ba_552, bcl_552, rfl, Nq552, K552, p552_1, p552_2, p552_3, p552_4, p552_5, p552_6, p552_7⟩ := hQ552
      have N553 : Fr n0 L552 := by rw [l552]; exact Fr.app N534 Nq552
      have J554 : ∀ t, Steps p.tables e below (T552.setTop (mkF m 148 #[.val (.int p1), .val (.int p2), .val (.int p3), .val (.int p4), .val (.int p5), .val (.ref b1), .val (.ref b25), .val (.int (1 : Int32)), .val (.ref b462), .val (.ref lst_524)] [(.ref st_552), (.ref st_524)])) t → Steps p.tables e below (s₁.setTop (entryFrame m #[(.int p1), (.int p2), (.int p3), (.int p4), (.int p5)] maxLocals)) t := fun t k => J539 t (st552 t k)
      have Z555 : n0 ≤ T552.heap.size := Nat.le_trans Z527 K552.1
      have kz := Nat.le_trans kz K552.1
      have f556 := p524_7.keep K552
      have f557 := p524_8.keep K552 nin0
      have f558 := p524_9.keep K552 nin0
      have f559 : Arr Z T552.heap ba_524 bcl_524 .byte := ⟨K552.2.1 _ _ p524_10.1 nin0, p524_10.2⟩
      have f560 := f551.keep K552 all0
      obtain ⟨cq561, kq561, q561a, q561b, q561c⟩ := isOf hZ rfl f556
      obtain ⟨_, _, ⟨T561, L561, k561, n561⟩, -, X561, ⟨Lc561, hQ561, l561, y561, z561⟩, st561⟩ := X552.virtualBack hx (y := (⟨"java/lang/String", "equals", "(Ljava/lang/Object;)Z"⟩ : MethodName)) (z := (⟨"java/lang/String", "equals", "(Ljava/lang/Object;)Z"⟩ : MethodName)) hown (mvT hZ (hw _ (List.mem_of_getElem? (i := 207) rfl))) (mvT hZ (hw _ (List.mem_of_getElem? (i := 208) rfl))) (notFace_of_selects (args := #[]) (mvT hZ (hw _ (List.mem_of_getElem? (i := 210) rfl)))) (mvT hZ (hw _ (List.mem_of_getElem? (i := 210) rfl))) (mvT hZ (hw _ (List.mem_of_getElem? (i := 209) rfl))) (by decide) (backOf (W := 0) (rm34L l Z a0 hw [] st_524 st_552 ba_524 ba_552 bcl_524 bcl_552 (nar .byte (ch.toInt8.toInt32)) cs T552.heap n0 Z555 f556 p552_1 (Nat.ne_of_lt (Nat.lt_of_lt_of_le p524_7.lt p552_7)) f557 p552_2 f558 p552_3 f559 p552_4 p524_11 p552_5 p524_12 p552_6 f560 Zc (by assumption)) hZ (hw _ (List.mem_of_getElem? (i := 211) rfl)) (hw _ (List.mem_of_getElem? (i := 4) rfl)) (by decide) (by decide)) q561a q561c (g := (mkF m 148 #[.val (.int p1), .val (.int p2), .val (.int p3), .val (.int p4), .val (.int p5), .val (.ref b1), .val (.ref b25), .val (.int (1 : Int32)), .val (.ref b462), .val (.ref lst_524)] [(.ref st_552), (.ref st_524)])) rfl (by rw [hml]; rfl) (Steps.refl _) (argsL := [(.ref st_552)]) (rest := []) (lenOf pd_20 rfl) rfl (by show 2 * 0 + _ ≤ _; exact Nat.le_of_eq rfl) (hb hby at_148) (fun _ _ => ⟨rfl, rfl, (by decide : 14 + 0 ≤ _), (by decide : 337 + 0 ≤ _)⟩)
      dsimp only [Pt.U, Pt.locs, Pt.cells, Pt.slots] at X561 l561 y561 z561 st561 hQ561
      subst y561 z561
      obtain ⟨rfl, Nq561, e561⟩ := hQ561
      have N562 : Fr n0 L561 := by rw [l561]; exact Fr.app N553 Nq561
      have J563 : ∀ t, Steps p.tables e below (T561.setTop (mkF m 151 #[.val (.int p1), .val (.int p2), .val (.int p3), .val (.int p4), .val (.int p5), .val (.ref b1), .val (.ref b25), .val (.int (1 : Int32)), .val (.ref b462), .val (.ref lst_524)] [(.int (1 : Int32))])) t → Steps p.tables e below (s₁.setTop (entryFrame m #[(.int p1), (.int p2), (.int p3), (.int p4), (.int p5)] maxLocals)) t := fun t k => J554 t (st561.trans k)
      have J564 : ∀ t, Steps p.tables e below (T561.setTop (mkF m 159 #[.val (.int p1), .val (.int p2), .val (.int p3), .val (.int p4), .val (.int p5), .val (.ref b1), .val (.ref b25), .val (.int (1 : Int32)), .val (.ref b462), .val (.ref lst_524)] [(.int (1 : Int32))])) t → Steps p.tables e below (s₁.setTop (entryFrame m #[(.int p1), (.int p2), (.int p3), (.int p4), (.int p5)] maxLocals)) t := fun t k => J563 t (by
          show Steps p.tables e below (T561.setTop (mkF m 151 #[.val (.int p1), .val (.int p2), .val (.int p3), .val (.int p4), .val (.int p5), .val (.ref b1), .val (.ref b25), .val (.int (1 : Int32)), .val (.ref b462), .val (.ref lst_524)] [(.int (1 : Int32))])) _
          refine XS.ifNo X561.here hx rfl (hb hby at_151) rfl ((if0 _ _).trans (feq (by decide)).1) ?_
          show Steps p.tables e below (T561.setTop (mkF m 154 #[.val (.int p1), .val (.int p2), .val (.int p3), .val (.int p4), .val (.int p5), .val (.ref b1), .val (.ref b25), .val (.int (1 : Int32)), .val (.ref b462), .val (.ref lst_524)] [])) _
          refine XS.iconst X561.here hx rfl (hb hby at_154) ?_
          show Steps p.tables e below (T561.setTop (mkF m 155 #[.val (.int p1), .val (.int p2), .val (.int p3), .val (.int p4), .val (.int p5), .val (.ref b1), .val (.ref b25), .val (.int (1 : Int32)), .val (.ref b462), .val (.ref lst_524)] [(.int (1 : Int32))])) _
          refine XS.goto X561.here hx rfl (pc0 := 155) (pc' := 159) rfl (hb hby at_155) (by decide) (by decide) ?_
          exact k)
      obtain ⟨fs, hr, hrun, hended, hWW⟩ := X561.leaveW hSi (by rw [e561]; exact kz) (v := some (.int (1 : Int32))) (fun h => by rw [Bd.returns] at h; cases h)
      refine ⟨_, _, J564 _ ?_, hrun, hended, _, _, rfl, ?_, hWW.1, hWW.2.1, hWW.2.2.1, hWW.2.2.2.mono (by decide) (by decide)⟩
      · show Steps p.tables e below (T561.setTop (mkF m 159 #[.val (.int p1), .val (.int p2), .val (.int p3), .val (.int p4), .val (.int p5), .val (.ref b1), .val (.ref b25), .val (.int (1 : Int32)), .val (.ref b462), .val (.ref lst_524)] [(.int (1 : Int32))])) _
        exact retN X561 hx (t := .boolean) Bd.returns (by simp) (hb hby at_159) hr
      · show Q0 Z p1 p2 p3 p4 p5 h0 n0 _ T561.heap _
        rw [e561]
        exact ⟨rfl, N562⟩
set_option maxRecDepth 65536 in
set_option maxHeartbeats 40000000 in
theorem comes_1 {Post : Tables → Env → Array Value → State → Outcome → State → Prop} (hpost : ∀ tb e args s v u, (limb_1_1.after args s (.returned v) u = true ∧ limb_1_2.after args s (.returned v) u = true ∧ True) → ReturnedEndW s (.returned v) u (Jvm.fieldLocs frame_1_writes args s ++ Jvm.arrayLocs frame_1_arrays args s ++ Jvm.staticLocs frame_1_statics s) 40 1728 → Post tb e args s (.returned v) u) :
    ArmFor flags0 classFile x code maxLocals ret World_1 tables_1 room_1 Calls_1 rest_1 Pre_1 Post := by
  intro l hfl _ _ p e ha hc hk s m args below hf hA hF happ hP
  obtain ⟨hcalls, hrest, hpre⟩ := hP
  obtain ⟨-, -, -, hnamed, -, -, -, hat⟩ := (Spec.applies_iff hf).mp happ
  obtain ⟨hg, hn⟩ := and_e (Cond.before_iff.mp (show (Jvm.Cond.and given_1 narrow_1).before args s = true from hpre))
  obtain ⟨hcount, hg0⟩ := and_e hg
  obtain ⟨ga0, hg1⟩ := and_e hg0
  obtain ⟨ga1, hg2⟩ := and_e hg1
  obtain ⟨ga2, hg3⟩ := and_e hg2
  obtain ⟨ga3, hg4⟩ := and_e hg3
  obtain ⟨w0, w1, w2, w3, w4, rfl⟩ : ∃ w0 w1 w2 w3 w4 : Value, args = #[w0, w1, w2, w3, w4] := by
    have hs : args.size = 5 := by simpa [Cond.value, given_1] using hcount
    obtain ⟨L⟩ := args
    match L, hs with
    | [w0, w1, w2, w3, w4], _ => exact ⟨w0, w1, w2, w3, w4, rfl⟩
  have hw := fun d (hd : d ∈ tables_1) => atoms_spec (ws := Jvm.Cond.code x code maxLocals ret :: tables_1) hat d (List.mem_cons_of_mem _ hd)
  have hfit : Fit s := fun {y c} hc i hi => by
    obtain ⟨ha, rfl⟩ := Array.getElem?_eq_some_iff.mp hc
    have q := List.all_eq_true.mp ((Array.all_eq_true_iff_forall_mem.mp hF) _ (Array.getElem_mem ha)) i (List.mem_range.mpr hi)
    simpa [Array.getElem?_eq_getElem hi] using q
  obtain ⟨hsets, hown0⟩ := atoms_of _ (rest_1_c_eq ▸ (show rest_1_c.before _ s = true from hrest))
  obtain ⟨i0, ei0⟩ := is_v ga0
  obtain rfl : w0 = (.int i0) := Option.some.inj ei0
  obtain ⟨i1, ei1⟩ := is_v ga1
  obtain rfl : w1 = (.int i1) := Option.some.inj ei1
  obtain ⟨i2, ei2⟩ := is_v ga2
  obtain rfl : w2 = (.int i2) := Option.some.inj ei2
  obtain ⟨i3, ei3⟩ := is_v ga3
  obtain rfl : w3 = (.int i3) := Option.some.inj ei3
  obtain ⟨i4, ei4⟩ := is_v hg4
  obtain rfl : w4 = (.int i4) := Option.some.inj ei4
  obtain ⟨n, o, h1, h2, h3, _, L, rfl, ⟨rfl, N⟩, hq⟩ := rm0 l s _ hw tables_1 i0 i1 i2 i3 i4 s.heap s.heap.size (Nat.le_refl _) (Old.start s) (own_st hfit hsets) p e ha hc hk s m _ below hf ((Spec.applies_iff_loose hf).mp happ).1 ⟨rfl, State.Warmed39.refl s, rfl⟩ trivial
  refine ⟨n, _, h1, h2, h3, hpost _ _ _ _ _ _ ⟨Cond.after_iff.mpr rfl, Cond.after_iff.mpr (eq_i res_at (Term.int_eval (1)) rfl), trivial⟩ ⟨hq.1, hq.2.1, hq.2.2.1, (hq.2.2.2.sift fun y hy => Or.inr (N y hy)).mono (by decide) (by decide)⟩⟩
theorem main_1_1 : Claimed_1_1 := comes_1 fun _ _ _ _ _ _ h hF => ⟨h.1, hF⟩
theorem main_1_2 : Claimed_1_2 := comes_1 fun _ _ _ _ _ _ h hF => ⟨h.2.1, hF⟩
end Jvm.Pilot.@@N@@
namespace Jvm.Pilot.@@N@@
open Jvm Jvm.ClassFile Sem Op Lib Jvm.Free Jvm.Stand Jvm.Pilot.@@N@@.Jvm.D
/-! MADE BY PROGRAM (witnessworld.py) out of the Statement's table words and the real class files: 37 classes; the members and pool entries that the words name. The judged class is class 1, her method 1. -/
namespace start1
open Jvm.ClassFile
def u (s : String) : CpInfo := .utf8 (stringToUtf16 s)
/-- a pool by its gaps: so many unusable entries, then the entry; so many at the end -/
def gap : Nat → List CpInfo → List CpInfo
  | 0, r => r
  | n + 1, r => .unusable :: gap n r
def poolList (es : List (Nat × CpInfo)) (last : Nat) : List CpInfo := es.foldr (fun e r => gap e.1 (e.2 :: r)) (gap last [])
def pool (es : List (Nat × CpInfo)) (last : Nat) : Array CpInfo := ⟨poolList es last⟩
def fileOf (pool : Array CpInfo) (this : Nat) (attrs : Array Attribute := #[]) (ms : Array MethodInfo := #[]) (fl : Nat := 33) (sup : Nat := 0) (ifs : Array Nat := #[]) (fds : Array FieldInfo := #[]) : ClassFile where
  minorVersion := 0
  majorVersion := 65
  constantPool := pool
  accessFlags := fl
  thisClass := this
  superClass := sup
  interfaces := ifs
  fields := fds
  methods := ms
  attributes := attrs
def plain (name : String) (sup : Option ClassId) : Class where
  name := name
  kind := .ordinary
  loader := none
  accessFlags := 33
  super := sup
  interfaces := #[]
  cf := none
  fields := #[]
  methods := #[]
  instanceTypes := #[]
  staticTypes := #[]
  resolved := #[]
  callSites := []
  init := .initialized
  statics := none
  mirror := none

def pool0 : Array CpInfo := pool [(5, u "<init>"), (0, u "()V"), (1, .class_ 10), (1, u "java/lang/Object")] 113

def k0c0 : Code := { maxStack := 0, maxLocals := 1, code := object_method_1_code, exceptionTable := #[], attributes := #[] }
def k0m0 : Method := { name := "<init>", desc := "()V", sig := { parameters := [], returnType := none }, accessFlags := 1, code := some k0c0 }
/-- java/lang/Object -/
def k0 : Class := { plain "java/lang/Object" none with
  accessFlags := 33
  interfaces := #[]
  cf := some (fileOf pool0 8 #[] #[{ accessFlags := 1, nameIndex := 5, descriptorIndex := 6, attributes := #[] }] 33 0 #[] #[])
  fields := #[]
  methods := #[k0m0]
  instanceTypes := #[]
  staticTypes := #[]
  resolved := Array.replicate 124 none
  statics := none }

def pool1 : Array CpInfo := pool [(2, .class_ 4), (1, u "java/lang/Object"), (0, u "<init>"), (0, u "()V"), (0, .class_ 8), (0, u "com/example/capwright/capwright/csv/CsvRow"), (0, .string 10), (0, u "data.csv"), (0, .methodref 7 12), (0, .nameAndType 5 13), (0, u "(Ljava/lang/String;)V"), (0, .methodref 7 15), (0, .nameAndType 16 17), (0, u "append"), (0, u "([CII)V"), (0, .methodref 7 19), (0, .nameAndType 20 6), (0, u "endField"), (0, .methodref 7 22), (0, .nameAndType 23 24), (0, u "clear"), (0, u "(I)V"), (0, .methodref 7 26), (0, .nameAndType 27 28), (0, u "line"), (0, u "()I"), (0, .methodref 7 30), (0, .nameAndType 31 28), (0, u "size"), (0, .methodref 7 33), (0, .nameAndType 34 35), (0, u "fields"), (0, u "()Ljava/util/List;"), (0, .interfaceMethodref 37 30), (0, .class_ 38), (0, u "java/util/List"), (0, .interfaceMethodref 37 40), (0, .nameAndType 41 42), (0, u "get"), (0, u "(I)Ljava/lang/Object;"), (0, .class_ 44), (0, u "java/lang/String"), (0, .methodref 43 46), (0, .nameAndType 47 48), (0, u "valueOf"), (0, u "(C)Ljava/lang/String;"), (0, .methodref 43 50), (0, .nameAndType 51 52), (0, u "equals"), (0, u "(Ljava/lang/Object;)Z"), (0, .class_ 54), (0, u "com/example/capwright/capwright/csv/CsvRowClearPinLaw"), (2, u "law"), (0, u "(IIIII)Z")] 5

def k1m0 : Method := { name := "<init>", desc := "()V", sig := { parameters := [], returnType := none }, accessFlags := 1, code := none }
def k1c1 : Code := { maxStack := 5, maxLocals := 10, code := code, exceptionTable := #[], attributes := #[] }
def k1m1 : Method := { name := "law", desc := "(IIIII)Z", sig := { parameters := [.int, .int, .int, .int, .int], returnType := some .boolean }, accessFlags := 9, code := some k1c1 }
/-- com/example/capwright/capwright/csv/CsvRowClearPinLaw -/
def k1 : Class := { plain "com/example/capwright/capwright/csv/CsvRowClearPinLaw" (some 0) with
  accessFlags := 49
  interfaces := #[]
  cf := some (fileOf pool1 53 #[] #[{ accessFlags := 1, nameIndex := 5, descriptorIndex := 6, attributes := #[] }, { accessFlags := 9, nameIndex := 57, descriptorIndex := 58, attributes := #[] }] 49 2 #[] #[])
  fields := #[]
  methods := #[k1m0, k1m1]
  instanceTypes := #[]
  staticTypes := #[]
  resolved := Array.replicate 64 none
  statics := none }

def pool2 : Array CpInfo := pool [(1, .interfaceMethodref 2 3), (0, .class_ 4), (0, .nameAndType 5 6), (0, u "java/util/Map"), (0, u "of"), (0, u "()Ljava/util/Map;"), (0, .class_ 8), (0, u "com/example/capwright/capwright/csv/CsvRow"), (0, .methodref 7 10), (0, .nameAndType 11 12), (0, u "<init>"), (0, u "(Ljava/lang/String;ILjava/util/Map;[C[II)V"), (0, .methodref 14 15), (0, .class_ 16), (0, .nameAndType 11 17), (0, u "java/lang/Object"), (0, u "()V"), (0, .class_ 19), (0, u "com/example/capwright/capwright/csv/CsvRow$FieldText"), (0, .methodref 18 21), (0, .nameAndType 11 22), (0, u "(Lcom/example/capwright/capwright/csv/CsvRow;)V"), (0, .fieldref 7 24), (0, .nameAndType 25 26), (0, u "fieldText"), (0, u "Lcom/example/capwright/capwright/csv/CsvRow$FieldText;"), (0, .fieldref 7 28), (0, .nameAndType 29 30), (0, u "file"), (0, u "Ljava/lang/String;"), (0, .fieldref 7 32), (0, .nameAndType 33 34), (0, u "line"), (0, u "I"), (0, .fieldref 7 36), (0, .nameAndType 37 38), (0, u "columns"), (0, u "Ljava/util/Map;"), (0, .fieldref 7 40), (0, .nameAndType 41 42), (0, u "chars"), (0, u "[C"), (0, .fieldref 7 44), (0, .nameAndType 45 46), (0, u "ends"), (0, u "[I"), (0, .fieldref 7 48), (0, .nameAndType 49 34), (0, u "size"), (0, .fieldref 7 51), (0, .nameAndType 52 34), (0, u "length"), (12, .methodref 66 67), (0, .class_ 68), (0, .nameAndType 69 70), (0, u "java/lang/System"), (0, u "arraycopy"), (0, u "(Ljava/lang/Object;ILjava/lang/Object;II)V"), (3, .class_ 75), (0, u "java/util/ArrayList"), (0, .methodref 74 77), (0, .nameAndType 11 78), (0, u "(I)V"), (0, .class_ 80), (0, u "java/lang/String"), (0, .methodref 79 82), (0, .nameAndType 11 83), (0, u "([CII)V"), (0, .interfaceMethodref 85 86), (0, .class_ 87), (0, .nameAndType 88 89), (0, u "java/util/List"), (0, u "add"), (0, u "(Ljava/lang/Object;)Z"), (34, u "(Ljava/lang/String;)V"), (3, u "()I"), (100, u "EMPTY"), (1, u "INITIAL_CHARS"), (1, u "INITIAL_FIELDS"), (9, u "clear"), (0, u "append"), (0, u "endField"), (3, u "fields"), (0, u "()Ljava/util/List;")] 40

def k2c0 : Code := { maxStack := 7, maxLocals := 2, code := prog_18_method_1_code, exceptionTable := #[], attributes := #[] }
def k2m0 : Method := { name := "<init>", desc := "(Ljava/lang/String;)V", sig := { parameters := [(.object "java/lang/String")], returnType := none }, accessFlags := 0, code := some k2c0 }
def k2c1 : Code := { maxStack := 4, maxLocals := 7, code := prog_18_method_2_code, exceptionTable := #[], attributes := #[] }
def k2m1 : Method := { name := "<init>", desc := "(Ljava/lang/String;ILjava/util/Map;[C[II)V", sig := { parameters := [(.object "java/lang/String"), .int, (.object "java/util/Map"), (.array .char), (.array .int), .int], returnType := none }, accessFlags := 2, code := some k2c1 }
def k2c2 : Code := { maxStack := 2, maxLocals := 2, code := prog_18_method_3_code, exceptionTable := #[], attributes := #[] }
def k2m2 : Method := { name := "clear", desc := "(I)V", sig := { parameters := [.int], returnType := none }, accessFlags := 0, code := some k2c2 }
def k2c3 : Code := { maxStack := 5, maxLocals := 5, code := prog_18_method_4_code, exceptionTable := #[], attributes := #[] }
def k2m3 : Method := { name := "append", desc := "([CII)V", sig := { parameters := [(.array .char), .int, .int], returnType := none }, accessFlags := 0, code := some k2c3 }
def k2c4 : Code := { maxStack := 5, maxLocals := 1, code := prog_18_method_5_code, exceptionTable := #[], attributes := #[] }
def k2m4 : Method := { name := "endField", desc := "()V", sig := { parameters := [], returnType := none }, accessFlags := 0, code := some k2c4 }
def k2c5 : Code := { maxStack := 1, maxLocals := 1, code := prog_18_method_7_code, exceptionTable := #[], attributes := #[] }
def k2m5 : Method := { name := "size", desc := "()I", sig := { parameters := [], returnType := some .int }, accessFlags := 0, code := some k2c5 }
def k2c6 : Code := { maxStack := 7, maxLocals := 4, code := prog_18_method_8_code, exceptionTable := #[], attributes := #[] }
def k2m6 : Method := { name := "fields", desc := "()Ljava/util/List;", sig := { parameters := [], returnType := some (.object "java/util/List") }, accessFlags := 0, code := some k2c6 }
def k2c7 : Code := { maxStack := 1, maxLocals := 1, code := prog_18_method_13_code, exceptionTable := #[], attributes := #[] }
def k2m7 : Method := { name := "line", desc := "()I", sig := { parameters := [], returnType := some .int }, accessFlags := 1, code := some k2c7 }
/-- com/example/capwright/capwright/csv/CsvRow -/
def k2 : Class := { plain "com/example/capwright/capwright/csv/CsvRow" (some 0) with
  accessFlags := 49
  interfaces := #[]
  cf := some (fileOf pool2 7 #[.nestMembers #[18]] #[{ accessFlags := 0, nameIndex := 11, descriptorIndex := 124, attributes := #[] }, { accessFlags := 2, nameIndex := 11, descriptorIndex := 12, attributes := #[] }, { accessFlags := 0, nameIndex := 243, descriptorIndex := 78, attributes := #[] }, { accessFlags := 0, nameIndex := 244, descriptorIndex := 83, attributes := #[] }, { accessFlags := 0, nameIndex := 245, descriptorIndex := 17, attributes := #[] }, { accessFlags := 0, nameIndex := 49, descriptorIndex := 128, attributes := #[] }, { accessFlags := 0, nameIndex := 249, descriptorIndex := 250, attributes := #[] }, { accessFlags := 1, nameIndex := 33, descriptorIndex := 128, attributes := #[] }] 49 14 #[] #[{ accessFlags := 26, nameIndex := 229, descriptorIndex := 30, attributes := #[] }, { accessFlags := 26, nameIndex := 231, descriptorIndex := 34, attributes := #[] }, { accessFlags := 26, nameIndex := 233, descriptorIndex := 34, attributes := #[] }, { accessFlags := 18, nameIndex := 29, descriptorIndex := 30, attributes := #[] }, { accessFlags := 2, nameIndex := 33, descriptorIndex := 34, attributes := #[] }, { accessFlags := 2, nameIndex := 37, descriptorIndex := 38, attributes := #[] }, { accessFlags := 2, nameIndex := 41, descriptorIndex := 42, attributes := #[] }, { accessFlags := 2, nameIndex := 45, descriptorIndex := 46, attributes := #[] }, { accessFlags := 2, nameIndex := 49, descriptorIndex := 34, attributes := #[] }, { accessFlags := 2, nameIndex := 52, descriptorIndex := 34, attributes := #[] }, { accessFlags := 18, nameIndex := 25, descriptorIndex := 26, attributes := #[] }])
  fields := #[{ name := "EMPTY", type := (.object "java/lang/String"), accessFlags := 26, slot := 0, constantValue := 0 }, { name := "INITIAL_CHARS", type := .int, accessFlags := 26, slot := 1, constantValue := 0 }, { name := "INITIAL_FIELDS", type := .int, accessFlags := 26, slot := 2, constantValue := 0 }, { name := "file", type := (.object "java/lang/String"), accessFlags := 18, slot := 0, constantValue := 0 }, { name := "line", type := .int, accessFlags := 2, slot := 1, constantValue := 0 }, { name := "columns", type := (.object "java/util/Map"), accessFlags := 2, slot := 2, constantValue := 0 }, { name := "chars", type := (.array .char), accessFlags := 2, slot := 3, constantValue := 0 }, { name := "ends", type := (.array .int), accessFlags := 2, slot := 4, constantValue := 0 }, { name := "size", type := .int, accessFlags := 2, slot := 5, constantValue := 0 }, { name := "length", type := .int, accessFlags := 2, slot := 6, constantValue := 0 }, { name := "fieldText", type := (.object "com/example/capwright/capwright/csv/CsvRow$FieldText"), accessFlags := 18, slot := 7, constantValue := 0 }]
  methods := #[k2m0, k2m1, k2m2, k2m3, k2m4, k2m5, k2m6, k2m7]
  instanceTypes := #[(.object "java/lang/String"), .int, (.object "java/util/Map"), (.array .char), (.array .int), .int, .int, (.object "com/example/capwright/capwright/csv/CsvRow$FieldText")]
  staticTypes := #[(.object "java/lang/String"), .int, .int]
  resolved := ((Array.replicate 291 none).setIfInBounds 18 (some (.cls 11))).setIfInBounds 20 (some (.method ⟨11, 0⟩))
  statics := none }

def pool3 : Array CpInfo := pool [(1, .class_ 2), (0, u "java/io/Serializable"), (0, .class_ 4), (0, u "java/lang/Object")] 2

/-- java/io/Serializable -/
def k3 : Class := { plain "java/io/Serializable" (some 0) with
  accessFlags := 1537
  interfaces := #[]
  cf := some (fileOf pool3 1 #[] #[] 1537 3 #[] #[])
  fields := #[]
  methods := #[]
  instanceTypes := #[]
  staticTypes := #[]
  resolved := Array.replicate 7 none
  statics := none }

def pool4 : Array CpInfo := pool [(1, .class_ 2), (0, u "java/lang/Comparable"), (0, .class_ 4), (0, u "java/lang/Object")] 7

/-- java/lang/Comparable -/
def k4 : Class := { plain "java/lang/Comparable" (some 0) with
  accessFlags := 1537
  interfaces := #[]
  cf := some (fileOf pool4 1 #[] #[] 1537 3 #[] #[])
  fields := #[]
  methods := #[]
  instanceTypes := #[]
  staticTypes := #[]
  resolved := Array.replicate 12 none
  statics := none }

def pool5 : Array CpInfo := pool [(2, .class_ 4), (1, u "java/lang/CharSequence"), (42, .class_ 48), (0, u "java/lang/CharSequence$1CodePointIterator"), (10, .class_ 60), (0, u "java/lang/CharSequence$1CharIterator"), (5, .class_ 67), (0, u "java/lang/Object")] 63

/-- java/lang/CharSequence -/
def k5 : Class := { plain "java/lang/CharSequence" (some 0) with
  accessFlags := 1537
  interfaces := #[]
  cf := some (fileOf pool5 2 #[.nestMembers #[47, 59]] #[] 1537 66 #[] #[])
  fields := #[]
  methods := #[]
  instanceTypes := #[]
  staticTypes := #[]
  resolved := Array.replicate 131 none
  statics := none }

def pool6 : Array CpInfo := pool [(1, .class_ 2), (0, u "java/lang/constant/Constable"), (0, .class_ 4), (0, u "java/lang/Object")] 6

/-- java/lang/constant/Constable -/
def k6 : Class := { plain "java/lang/constant/Constable" (some 0) with
  accessFlags := 1537
  interfaces := #[]
  cf := some (fileOf pool6 1 #[] #[] 1537 3 #[] #[])
  fields := #[]
  methods := #[]
  instanceTypes := #[]
  staticTypes := #[]
  resolved := Array.replicate 11 none
  statics := none }

def pool7 : Array CpInfo := pool [(1, .class_ 2), (0, u "java/lang/constant/ConstantDesc"), (0, .class_ 4), (0, u "java/lang/Object")] 32

/-- java/lang/constant/ConstantDesc -/
def k7 : Class := { plain "java/lang/constant/ConstantDesc" (some 0) with
  accessFlags := 1537
  interfaces := #[]
  cf := some (fileOf pool7 1 #[] #[] 1537 3 #[] #[])
  fields := #[]
  methods := #[]
  instanceTypes := #[]
  staticTypes := #[]
  resolved := Array.replicate 37 none
  statics := none }

def pool8 : Array CpInfo := pool [(1, .methodref 2 3), (0, .class_ 4), (0, .nameAndType 5 6), (0, u "java/lang/Object"), (0, u "<init>"), (0, u "()V"), (2, .fieldref 10 11), (0, .class_ 12), (0, .nameAndType 13 14), (0, u "java/lang/String"), (0, u "value"), (0, u "[B"), (0, .fieldref 10 16), (0, .nameAndType 17 18), (0, u "coder"), (0, u "B"), (2, u "hash"), (0, u "I"), (2, u "hashIsZero"), (0, u "Z"), (0, .methodref 10 28), (0, .nameAndType 5 29), (0, u "([CIILjava/lang/Void;)V"), (0, .methodref 10 31), (0, .nameAndType 32 33), (0, u "rangeCheck"), (0, u "([CII)Ljava/lang/Void;"), (0, .methodref 10 35), (0, .nameAndType 36 37), (0, u "checkBoundsOffCount"), (0, u "(III)I"), (0, .fieldref 10 39), (0, .nameAndType 40 26), (0, u "COMPACT_STRINGS"), (1, .class_ 44), (1, u "java/lang/StringUTF16"), (0, u "compress"), (1, .methodref 42 48), (0, .nameAndType 49 50), (0, u "coderFromArrayLen"), (0, u "([BI)B"), (2, u "toBytes"), (53, .class_ 109), (1, u "java/lang/StringLatin1"), (67, .methodref 42 178), (0, .nameAndType 45 179), (0, u "([CII)[B"), (29, .methodref 10 210), (0, .nameAndType 5 211), (0, u "([BB)V"), (157, u "(C)Z"), (171, .methodref 107 542), (0, .nameAndType 543 544), (0, u "equals"), (0, u "([B[B)Z"), (28, u "(Ljava/lang/Object;)Z"), (1, .class_ 576), (0, u "java/lang/CharSequence"), (22, u "CASE_INSENSITIVE_ORDER"), (0, u "Ljava/util/Comparator;"), (181, u "valueOf"), (0, u "(C)Ljava/lang/String;"), (188, u "([CII)V"), (42, .methodref 107 1016), (0, .nameAndType 1017 369), (0, u "canEncode"), (0, .methodref 107 1019), (0, .nameAndType 53 1020), (0, u "(C)[B"), (0, .methodref 42 1019), (31, .fieldref 1054 1055), (0, .class_ 1056), (0, .nameAndType 1057 1058), (0, u "jdk/internal/util/Preconditions"), (0, u "SIOOBE_FORMATTER"), (0, u "Ljava/util/function/BiFunction;"), (5, u "(IIILjava/util/function/BiFunction;)I"), (0, .methodref 1054 1066), (0, .nameAndType 1067 1064), (0, u "checkFromIndexSize"), (33, u "serialPersistentFields"), (0, u "[Ljava/io/ObjectStreamField;"), (0, .class_ 1104), (0, u "java/lang/String$CaseInsensitiveComparator"), (1, .class_ 1107), (0, u "java/io/Serializable"), (0, .class_ 1109), (0, u "java/lang/Comparable"), (0, .class_ 1111), (0, u "java/lang/constant/Constable"), (0, .class_ 1113), (0, u "java/lang/constant/ConstantDesc"), (2, u "serialVersionUID"), (0, u "J"), (3, u "REPL"), (0, u "C"), (2, u "LATIN1"), (1, u "UTF16")] 323

def k8m0 : Method := { name := "<init>", desc := "()V", sig := { parameters := [], returnType := none }, accessFlags := 1, code := none }
def k8c1 : Code := { maxStack := 7, maxLocals := 4, code := jdk_42_method_4_code, exceptionTable := #[], attributes := #[] }
def k8m1 : Method := { name := "<init>", desc := "([CII)V", sig := { parameters := [(.array .char), .int, .int], returnType := none }, accessFlags := 1, code := some k8c1 }
def k8c2 : Code := { maxStack := 3, maxLocals := 3, code := jdk_42_method_5_code, exceptionTable := #[], attributes := #[] }
def k8m2 : Method := { name := "rangeCheck", desc := "([CII)Ljava/lang/Void;", sig := { parameters := [(.array .char), .int, .int], returnType := some (.object "java/lang/Void") }, accessFlags := 10, code := some k8c2 }
def k8c3 : Code := { maxStack := 2, maxLocals := 3, code := jdk_42_method_66_code, exceptionTable := #[], attributes := #[] }
def k8m3 : Method := { name := "equals", desc := "(Ljava/lang/Object;)Z", sig := { parameters := [(.object "java/lang/Object")], returnType := some .boolean }, accessFlags := 1, code := some k8c3 }
def k8c4 : Code := { maxStack := 4, maxLocals := 1, code := jdk_42_method_139_code, exceptionTable := #[], attributes := #[] }
def k8m4 : Method := { name := "valueOf", desc := "(C)Ljava/lang/String;", sig := { parameters := [.char], returnType := some (.object "java/lang/String") }, accessFlags := 9, code := some k8c4 }
def k8c5 : Code := { maxStack := 4, maxLocals := 6, code := jdk_42_method_149_code, exceptionTable := #[], attributes := #[] }
def k8m5 : Method := { name := "<init>", desc := "([CIILjava/lang/Void;)V", sig := { parameters := [(.array .char), .int, .int, (.object "java/lang/Void")], returnType := none }, accessFlags := 2, code := some k8c5 }
def k8c6 : Code := { maxStack := 2, maxLocals := 3, code := jdk_42_method_151_code, exceptionTable := #[], attributes := #[] }
def k8m6 : Method := { name := "<init>", desc := "([BB)V", sig := { parameters := [(.array .byte), .byte], returnType := none }, accessFlags := 0, code := some k8c6 }
def k8c7 : Code := { maxStack := 4, maxLocals := 3, code := jdk_42_method_157_code, exceptionTable := #[], attributes := #[] }
def k8m7 : Method := { name := "checkBoundsOffCount", desc := "(III)I", sig := { parameters := [.int, .int, .int], returnType := some .int }, accessFlags := 8, code := some k8c7 }
/-- java/lang/String -/
def k8 : Class := { plain "java/lang/String" (some 0) with
  accessFlags := 49
  interfaces := #[3, 4, 5, 6, 7]
  cf := some (fileOf pool8 10 #[.nestMembers #[1103]] #[{ accessFlags := 1, nameIndex := 5, descriptorIndex := 6, attributes := #[] }, { accessFlags := 1, nameIndex := 5, descriptorIndex := 972, attributes := #[] }, { accessFlags := 10, nameIndex := 32, descriptorIndex := 33, attributes := #[] }, { accessFlags := 1, nameIndex := 543, descriptorIndex := 573, attributes := #[] }, { accessFlags := 9, nameIndex := 782, descriptorIndex := 783, attributes := #[] }, { accessFlags := 2, nameIndex := 5, descriptorIndex := 29, attributes := #[] }, { accessFlags := 0, nameIndex := 5, descriptorIndex := 211, attributes := #[] }, { accessFlags := 8, nameIndex := 36, descriptorIndex := 37, attributes := #[] }] 49 2 #[1106, 1108, 575, 1110, 1112] #[{ accessFlags := 18, nameIndex := 13, descriptorIndex := 14, attributes := #[] }, { accessFlags := 18, nameIndex := 17, descriptorIndex := 18, attributes := #[] }, { accessFlags := 2, nameIndex := 21, descriptorIndex := 22, attributes := #[] }, { accessFlags := 2, nameIndex := 25, descriptorIndex := 26, attributes := #[] }, { accessFlags := 26, nameIndex := 1116, descriptorIndex := 1117, attributes := #[] }, { accessFlags := 24, nameIndex := 40, descriptorIndex := 26, attributes := #[] }, { accessFlags := 26, nameIndex := 1101, descriptorIndex := 1102, attributes := #[] }, { accessFlags := 26, nameIndex := 1121, descriptorIndex := 1122, attributes := #[] }, { accessFlags := 25, nameIndex := 599, descriptorIndex := 600, attributes := #[] }, { accessFlags := 24, nameIndex := 1125, descriptorIndex := 18, attributes := #[] }, { accessFlags := 24, nameIndex := 1127, descriptorIndex := 18, attributes := #[] }])
  fields := #[{ name := "value", type := (.array .byte), accessFlags := 18, slot := 0, constantValue := 0 }, { name := "coder", type := .byte, accessFlags := 18, slot := 1, constantValue := 0 }, { name := "hash", type := .int, accessFlags := 2, slot := 2, constantValue := 0 }, { name := "hashIsZero", type := .boolean, accessFlags := 2, slot := 3, constantValue := 0 }, { name := "serialVersionUID", type := .long, accessFlags := 26, slot := 0, constantValue := 0 }, { name := "COMPACT_STRINGS", type := .boolean, accessFlags := 24, slot := 1, constantValue := 0 }, { name := "serialPersistentFields", type := (.array (.object "java/io/ObjectStreamField")), accessFlags := 26, slot := 2, constantValue := 0 }, { name := "REPL", type := .char, accessFlags := 26, slot := 3, constantValue := 0 }, { name := "CASE_INSENSITIVE_ORDER", type := (.object "java/util/Comparator"), accessFlags := 25, slot := 4, constantValue := 0 }, { name := "LATIN1", type := .byte, accessFlags := 24, slot := 5, constantValue := 0 }, { name := "UTF16", type := .byte, accessFlags := 24, slot := 6, constantValue := 0 }]
  methods := #[k8m0, k8m1, k8m2, k8m3, k8m4, k8m5, k8m6, k8m7]
  instanceTypes := #[(.array .byte), .byte, .int, .boolean]
  staticTypes := #[.long, .boolean, (.array (.object "java/io/ObjectStreamField")), .char, (.object "java/util/Comparator"), .byte, .byte]
  resolved := Array.replicate 1451 none
  statics := some 0 }

def pool9 : Array CpInfo := pool [(2, .class_ 4), (1, u "java/util/Map"), (31, .class_ 37), (0, u "java/util/Map$Entry"), (43, .fieldref 82 83), (0, .class_ 84), (0, .nameAndType 85 86), (0, u "java/util/ImmutableCollections"), (0, u "EMPTY_MAP"), (0, u "Ljava/util/ImmutableCollections$MapN;"), (6, .class_ 94), (0, u "java/lang/Object"), (13, u "of"), (0, u "()Ljava/util/Map;")] 153

def k9c0 : Code := { maxStack := 1, maxLocals := 0, code := jdk_72_method_26_code, exceptionTable := #[], attributes := #[] }
def k9m0 : Method := { name := "of", desc := "()Ljava/util/Map;", sig := { parameters := [], returnType := some (.object "java/util/Map") }, accessFlags := 9, code := some k9c0 }
/-- java/util/Map -/
def k9 : Class := { plain "java/util/Map" (some 0) with
  accessFlags := 1537
  interfaces := #[]
  cf := some (fileOf pool9 2 #[.nestMembers #[36]] #[{ accessFlags := 9, nameIndex := 108, descriptorIndex := 109, attributes := #[] }] 1537 93 #[] #[])
  fields := #[]
  methods := #[k9m0]
  instanceTypes := #[]
  staticTypes := #[]
  resolved := Array.replicate 263 none
  statics := none }

def pool10 : Array CpInfo := pool [(2, .class_ 4), (1, u "java/lang/Object"), (0, u "<init>"), (0, u "()V"), (3, .class_ 11), (0, u "java/util/ImmutableCollections$List12"), (0, .class_ 13), (0, u "java/util/ImmutableCollections$ListN"), (3, u "Z"), (29, .class_ 49), (1, u "java/util/ImmutableCollections"), (0, u "$assertionsDisabled"), (5, u "[Ljava/lang/Object;"), (5, u "EMPTY_LIST"), (0, u "Ljava/util/ImmutableCollections$ListN;"), (8, u "EMPTY_LIST_NULLS"), (22, u "SALT32L"), (0, u "J"), (2, u "REVERSE"), (6, u "archivedObjects"), (2, u "EMPTY"), (0, u "Ljava/lang/Object;"), (0, .class_ 112), (0, u "java/util/ImmutableCollections$SetN"), (5, u "EMPTY_SET"), (0, u "Ljava/util/ImmutableCollections$SetN;"), (0, .class_ 121), (0, u "java/util/ImmutableCollections$MapN"), (3, u "EMPTY_MAP"), (0, u "Ljava/util/ImmutableCollections$MapN;"), (4, u "EXPAND_FACTOR"), (0, u "I"), (36, .class_ 170), (0, u "java/util/ImmutableCollections$MapN$MapNIterator"), (0, .class_ 172), (0, u "java/util/ImmutableCollections$MapN$1"), (0, .class_ 174), (0, u "java/util/ImmutableCollections$Map1"), (0, .class_ 176), (0, u "java/util/ImmutableCollections$AbstractImmutableMap"), (0, .class_ 178), (0, u "java/util/ImmutableCollections$SetN$SetNIterator"), (0, .class_ 180), (0, u "java/util/ImmutableCollections$Set12"), (0, .class_ 182), (0, u "java/util/ImmutableCollections$Set12$1"), (0, .class_ 184), (0, u "java/util/ImmutableCollections$AbstractImmutableSet"), (0, .class_ 186), (0, u "java/util/ImmutableCollections$SubList"), (0, .class_ 188), (0, u "java/util/ImmutableCollections$ListItr"), (0, .class_ 190), (0, u "java/util/ImmutableCollections$AbstractImmutableList"), (0, .class_ 192), (0, u "java/util/ImmutableCollections$AbstractImmutableCollection"), (0, .class_ 194), (0, u "java/util/ImmutableCollections$Access"), (0, .class_ 196), (0, u "java/util/ImmutableCollections$Access$1")] 16

def k10m0 : Method := { name := "<init>", desc := "()V", sig := { parameters := [], returnType := none }, accessFlags := 2, code := none }
/-- java/util/ImmutableCollections -/
def k10 : Class := { plain "java/util/ImmutableCollections" (some 0) with
  accessFlags := 32
  interfaces := #[]
  cf := some (fileOf pool10 47 #[.nestMembers #[120, 169, 171, 173, 175, 111, 177, 179, 181, 183, 12, 10, 185, 187, 189, 191, 193, 195]] #[{ accessFlags := 2, nameIndex := 5, descriptorIndex := 6, attributes := #[] }] 32 2 #[] #[{ accessFlags := 26, nameIndex := 95, descriptorIndex := 96, attributes := #[] }, { accessFlags := 26, nameIndex := 99, descriptorIndex := 17, attributes := #[] }, { accessFlags := 10, nameIndex := 106, descriptorIndex := 56, attributes := #[] }, { accessFlags := 26, nameIndex := 109, descriptorIndex := 110, attributes := #[] }, { accessFlags := 24, nameIndex := 62, descriptorIndex := 63, attributes := #[] }, { accessFlags := 24, nameIndex := 72, descriptorIndex := 63, attributes := #[] }, { accessFlags := 24, nameIndex := 118, descriptorIndex := 119, attributes := #[] }, { accessFlags := 24, nameIndex := 125, descriptorIndex := 126, attributes := #[] }, { accessFlags := 24, nameIndex := 131, descriptorIndex := 132, attributes := #[] }, { accessFlags := 4120, nameIndex := 50, descriptorIndex := 17, attributes := #[] }])
  fields := #[{ name := "SALT32L", type := .long, accessFlags := 26, slot := 0, constantValue := 0 }, { name := "REVERSE", type := .boolean, accessFlags := 26, slot := 1, constantValue := 0 }, { name := "archivedObjects", type := (.array (.object "java/lang/Object")), accessFlags := 10, slot := 2, constantValue := 0 }, { name := "EMPTY", type := (.object "java/lang/Object"), accessFlags := 26, slot := 3, constantValue := 0 }, { name := "EMPTY_LIST", type := (.object "java/util/ImmutableCollections$ListN"), accessFlags := 24, slot := 4, constantValue := 0 }, { name := "EMPTY_LIST_NULLS", type := (.object "java/util/ImmutableCollections$ListN"), accessFlags := 24, slot := 5, constantValue := 0 }, { name := "EMPTY_SET", type := (.object "java/util/ImmutableCollections$SetN"), accessFlags := 24, slot := 6, constantValue := 0 }, { name := "EMPTY_MAP", type := (.object "java/util/ImmutableCollections$MapN"), accessFlags := 24, slot := 7, constantValue := 0 }, { name := "EXPAND_FACTOR", type := .int, accessFlags := 24, slot := 8, constantValue := 0 }, { name := "$assertionsDisabled", type := .boolean, accessFlags := 4120, slot := 9, constantValue := 0 }]
  methods := #[k10m0]
  instanceTypes := #[]
  staticTypes := #[.long, .boolean, (.array (.object "java/lang/Object")), (.object "java/lang/Object"), (.object "java/util/ImmutableCollections$ListN"), (.object "java/util/ImmutableCollections$ListN"), (.object "java/util/ImmutableCollections$SetN"), (.object "java/util/ImmutableCollections$MapN"), .int, .boolean]
  resolved := Array.replicate 213 none
  statics := some 1 }

def pool11 : Array CpInfo := pool [(1, .fieldref 2 3), (0, .class_ 4), (0, .nameAndType 5 6), (0, u "com/example/capwright/capwright/csv/CsvRow$FieldText"), (0, u "this$0"), (0, u "Lcom/example/capwright/capwright/csv/CsvRow;"), (0, .methodref 8 9), (0, .class_ 10), (0, .nameAndType 11 12), (0, u "java/lang/Object"), (0, u "<init>"), (0, u "()V"), (2, u "to"), (0, u "I"), (2, u "from"), (1, .class_ 23), (1, u "com/example/capwright/capwright/csv/CsvRow"), (15, .class_ 40), (0, u "java/lang/CharSequence"), (0, u "(Lcom/example/capwright/capwright/csv/CsvRow;)V")] 12

def k11c0 : Code := { maxStack := 2, maxLocals := 2, code := prog_19_method_1_code, exceptionTable := #[], attributes := #[] }
def k11m0 : Method := { name := "<init>", desc := "(Lcom/example/capwright/capwright/csv/CsvRow;)V", sig := { parameters := [(.object "com/example/capwright/capwright/csv/CsvRow")], returnType := none }, accessFlags := 2, code := some k11c0 }
/-- com/example/capwright/capwright/csv/CsvRow$FieldText -/
def k11 : Class := { plain "com/example/capwright/capwright/csv/CsvRow$FieldText" (some 0) with
  accessFlags := 48
  interfaces := #[5]
  cf := some (fileOf pool11 2 #[.nestHost 21] #[{ accessFlags := 2, nameIndex := 11, descriptorIndex := 41, attributes := #[] }] 48 8 #[39] #[{ accessFlags := 2, nameIndex := 19, descriptorIndex := 16, attributes := #[] }, { accessFlags := 2, nameIndex := 15, descriptorIndex := 16, attributes := #[] }, { accessFlags := 4112, nameIndex := 5, descriptorIndex := 6, attributes := #[] }])
  fields := #[{ name := "from", type := .int, accessFlags := 2, slot := 0, constantValue := 0 }, { name := "to", type := .int, accessFlags := 2, slot := 1, constantValue := 0 }, { name := "this$0", type := (.object "com/example/capwright/capwright/csv/CsvRow"), accessFlags := 4112, slot := 2, constantValue := 0 }]
  methods := #[k11m0]
  instanceTypes := #[.int, .int, (.object "com/example/capwright/capwright/csv/CsvRow")]
  staticTypes := #[]
  resolved := Array.replicate 54 none
  statics := none }

def pool12 : Array CpInfo := pool [(2, .class_ 4), (1, u "java/lang/Object"), (0, u "<init>"), (0, u "()V"), (1, .class_ 10), (1, u "java/lang/System"), (0, u "allowSecurityManager"), (0, u "I"), (16, u "cons"), (0, u "Ljava/io/Console;"), (77, .class_ 110), (1, u "java/lang/System$CallersHolder"), (43, u "initialErrStream"), (0, u "Ljava/io/PrintStream;"), (19, u "security"), (0, u "Ljava/lang/SecurityManager;"), (31, .class_ 209), (0, u "java/lang/System$1"), (7, u "props"), (0, u "Ljava/util/Properties;"), (2, u "lineSeparator"), (0, u "Ljava/lang/String;"), (96, .class_ 321), (1, u "java/lang/System$LoggerFinder"), (5, .class_ 328), (0, u "java/lang/System$Logger"), (67, u "err"), (2, u "out"), (91, u "notSupportedJnuEncoding"), (15, u "in"), (17, u "initialIn"), (0, u "Ljava/io/InputStream;"), (35, u "bootLayer"), (0, u "Ljava/lang/ModuleLayer;"), (99, .class_ 664), (0, u "java/lang/System$2"), (9, u "NEVER"), (2, u "MAYBE"), (49, u "arraycopy"), (0, u "(Ljava/lang/Object;ILjava/lang/Object;II)V"), (72, .class_ 802), (0, u "java/lang/System$Logger$Level")] 31

def k12m0 : Method := { name := "<init>", desc := "()V", sig := { parameters := [], returnType := none }, accessFlags := 2, code := none }
def k12m1 : Method := { name := "arraycopy", desc := "(Ljava/lang/Object;ILjava/lang/Object;II)V", sig := { parameters := [(.object "java/lang/Object"), .int, (.object "java/lang/Object"), .int, .int], returnType := none }, accessFlags := 265, code := none }
/-- java/lang/System -/
def k12 : Class := { plain "java/lang/System" (some 0) with
  accessFlags := 49
  interfaces := #[]
  cf := some (fileOf pool12 8 #[.nestMembers #[319, 327, 801, 108, 663, 208]] #[{ accessFlags := 2, nameIndex := 5, descriptorIndex := 6, attributes := #[] }, { accessFlags := 265, nameIndex := 727, descriptorIndex := 728, attributes := #[] }] 49 2 #[] #[{ accessFlags := 25, nameIndex := 507, descriptorIndex := 526, attributes := #[] }, { accessFlags := 25, nameIndex := 399, descriptorIndex := 155, attributes := #[] }, { accessFlags := 25, nameIndex := 396, descriptorIndex := 155, attributes := #[] }, { accessFlags := 10, nameIndex := 525, descriptorIndex := 526, attributes := #[] }, { accessFlags := 26, nameIndex := 674, descriptorIndex := 12, attributes := #[] }, { accessFlags := 26, nameIndex := 677, descriptorIndex := 12, attributes := #[] }, { accessFlags := 10, nameIndex := 11, descriptorIndex := 12, attributes := #[] }, { accessFlags := 74, nameIndex := 175, descriptorIndex := 176, attributes := #[] }, { accessFlags := 10, nameIndex := 491, descriptorIndex := 222, attributes := #[] }, { accessFlags := 74, nameIndex := 29, descriptorIndex := 30, attributes := #[] }, { accessFlags := 74, nameIndex := 154, descriptorIndex := 155, attributes := #[] }, { accessFlags := 10, nameIndex := 217, descriptorIndex := 218, attributes := #[] }, { accessFlags := 10, nameIndex := 221, descriptorIndex := 222, attributes := #[] }, { accessFlags := 8, nameIndex := 562, descriptorIndex := 563, attributes := #[] }])
  fields := #[{ name := "in", type := (.object "java/io/InputStream"), accessFlags := 25, slot := 0, constantValue := 0 }, { name := "out", type := (.object "java/io/PrintStream"), accessFlags := 25, slot := 1, constantValue := 0 }, { name := "err", type := (.object "java/io/PrintStream"), accessFlags := 25, slot := 2, constantValue := 0 }, { name := "initialIn", type := (.object "java/io/InputStream"), accessFlags := 10, slot := 3, constantValue := 0 }, { name := "NEVER", type := .int, accessFlags := 26, slot := 4, constantValue := 0 }, { name := "MAYBE", type := .int, accessFlags := 26, slot := 5, constantValue := 0 }, { name := "allowSecurityManager", type := .int, accessFlags := 10, slot := 6, constantValue := 0 }, { name := "security", type := (.object "java/lang/SecurityManager"), accessFlags := 74, slot := 7, constantValue := 0 }, { name := "notSupportedJnuEncoding", type := (.object "java/lang/String"), accessFlags := 10, slot := 8, constantValue := 0 }, { name := "cons", type := (.object "java/io/Console"), accessFlags := 74, slot := 9, constantValue := 0 }, { name := "initialErrStream", type := (.object "java/io/PrintStream"), accessFlags := 74, slot := 10, constantValue := 0 }, { name := "props", type := (.object "java/util/Properties"), accessFlags := 10, slot := 11, constantValue := 0 }, { name := "lineSeparator", type := (.object "java/lang/String"), accessFlags := 10, slot := 12, constantValue := 0 }, { name := "bootLayer", type := (.object "java/lang/ModuleLayer"), accessFlags := 8, slot := 13, constantValue := 0 }]
  methods := #[k12m0, k12m1]
  instanceTypes := #[]
  staticTypes := #[(.object "java/io/InputStream"), (.object "java/io/PrintStream"), (.object "java/io/PrintStream"), (.object "java/io/InputStream"), .int, .int, .int, (.object "java/lang/SecurityManager"), (.object "java/lang/String"), (.object "java/io/Console"), (.object "java/io/PrintStream"), (.object "java/util/Properties"), (.object "java/lang/String"), (.object "java/lang/ModuleLayer")]
  resolved := Array.replicate 834 none
  statics := none }

def pool13 : Array CpInfo := pool [(8, .class_ 10), (1, u "java/lang/Iterable"), (24, .class_ 36), (0, u "java/lang/Object")] 25

/-- java/lang/Iterable -/
def k13 : Class := { plain "java/lang/Iterable" (some 0) with
  accessFlags := 1537
  interfaces := #[]
  cf := some (fileOf pool13 8 #[] #[] 1537 35 #[] #[])
  fields := #[]
  methods := #[]
  instanceTypes := #[]
  staticTypes := #[]
  resolved := Array.replicate 62 none
  statics := none }

def pool14 : Array CpInfo := pool [(10, .class_ 12), (1, u "java/util/Collection"), (47, .class_ 61), (0, u "java/lang/Object"), (0, .class_ 63), (0, u "java/lang/Iterable")] 51

/-- java/util/Collection -/
def k14 : Class := { plain "java/util/Collection" (some 0) with
  accessFlags := 1537
  interfaces := #[13]
  cf := some (fileOf pool14 10 #[] #[] 1537 60 #[62] #[])
  fields := #[]
  methods := #[]
  instanceTypes := #[]
  staticTypes := #[]
  resolved := Array.replicate 115 none
  statics := none }

def pool15 : Array CpInfo := pool [(1, .methodref 2 3), (0, .class_ 4), (0, .nameAndType 5 6), (0, u "java/lang/Object"), (0, u "<init>"), (0, u "()V"), (1, .class_ 10), (1, u "java/util/AbstractCollection"), (66, .class_ 78), (0, u "java/util/Collection")] 81

def k15c0 : Code := { maxStack := 1, maxLocals := 1, code := jdk_22_method_1_code, exceptionTable := #[], attributes := #[] }
def k15m0 : Method := { name := "<init>", desc := "()V", sig := { parameters := [], returnType := none }, accessFlags := 4, code := some k15c0 }
/-- java/util/AbstractCollection -/
def k15 : Class := { plain "java/util/AbstractCollection" (some 0) with
  accessFlags := 1057
  interfaces := #[14]
  cf := some (fileOf pool15 8 #[] #[{ accessFlags := 4, nameIndex := 5, descriptorIndex := 6, attributes := #[] }] 1057 2 #[77] #[])
  fields := #[]
  methods := #[k15m0]
  instanceTypes := #[]
  staticTypes := #[]
  resolved := Array.replicate 160 none
  statics := none }

def pool16 : Array CpInfo := pool [(8, .class_ 10), (1, u "java/util/SequencedCollection"), (15, .class_ 27), (0, u "java/lang/Object"), (0, .class_ 29), (0, u "java/util/Collection")] 27

/-- java/util/SequencedCollection -/
def k16 : Class := { plain "java/util/SequencedCollection" (some 0) with
  accessFlags := 1537
  interfaces := #[14]
  cf := some (fileOf pool16 8 #[] #[] 1537 26 #[28] #[])
  fields := #[]
  methods := #[]
  instanceTypes := #[]
  staticTypes := #[]
  resolved := Array.replicate 57 none
  statics := none }

def pool17 : Array CpInfo := pool [(8, .class_ 10), (1, u "java/util/List"), (49, u "add"), (3, u "(Ljava/lang/Object;)Z"), (10, u "get"), (0, u "(I)Ljava/lang/Object;"), (2, u "size"), (0, u "()I"), (22, .class_ 104), (0, u "java/lang/Object"), (15, .class_ 121), (0, u "java/util/SequencedCollection")] 129

def k17m0 : Method := { name := "size", desc := "()I", sig := { parameters := [], returnType := some .int }, accessFlags := 1025, code := none }
def k17m1 : Method := { name := "add", desc := "(Ljava/lang/Object;)Z", sig := { parameters := [(.object "java/lang/Object")], returnType := some .boolean }, accessFlags := 1025, code := none }
def k17m2 : Method := { name := "get", desc := "(I)Ljava/lang/Object;", sig := { parameters := [.int], returnType := some (.object "java/lang/Object") }, accessFlags := 1025, code := none }
/-- java/util/List -/
def k17 : Class := { plain "java/util/List" (some 0) with
  accessFlags := 1537
  interfaces := #[16]
  cf := some (fileOf pool17 8 #[] #[{ accessFlags := 1025, nameIndex := 79, descriptorIndex := 80, attributes := #[] }, { accessFlags := 1025, nameIndex := 60, descriptorIndex := 64, attributes := #[] }, { accessFlags := 1025, nameIndex := 75, descriptorIndex := 76, attributes := #[] }] 1537 103 #[120] #[])
  fields := #[]
  methods := #[k17m0, k17m1, k17m2]
  instanceTypes := #[]
  staticTypes := #[]
  resolved := Array.replicate 251 none
  statics := none }

def pool18 : Array CpInfo := pool [(1, .methodref 2 3), (0, .class_ 4), (0, .nameAndType 5 6), (0, u "java/util/AbstractCollection"), (0, u "<init>"), (0, u "()V"), (0, .fieldref 8 9), (0, .class_ 10), (0, .nameAndType 11 12), (0, u "java/util/AbstractList"), (0, u "modCount"), (0, u "I"), (64, .class_ 78), (0, u "java/util/AbstractList$Itr"), (3, .class_ 83), (0, u "java/util/AbstractList$ListItr"), (9, .class_ 94), (0, u "java/util/AbstractList$RandomAccessSubList"), (3, .class_ 99), (0, u "java/util/AbstractList$SubList"), (33, .class_ 134), (0, u "java/util/List"), (73, .class_ 209), (0, u "java/util/AbstractList$SubList$1"), (0, .class_ 211), (0, u "java/util/AbstractList$RandomAccessSpliterator")] 6

def k18c0 : Code := { maxStack := 2, maxLocals := 1, code := jdk_39_method_1_code, exceptionTable := #[], attributes := #[] }
def k18m0 : Method := { name := "<init>", desc := "()V", sig := { parameters := [], returnType := none }, accessFlags := 4, code := some k18c0 }
/-- java/util/AbstractList -/
def k18 : Class := { plain "java/util/AbstractList" (some 15) with
  accessFlags := 1057
  interfaces := #[17]
  cf := some (fileOf pool18 8 #[.nestMembers #[93, 98, 208, 210, 82, 77]] #[{ accessFlags := 4, nameIndex := 5, descriptorIndex := 6, attributes := #[] }] 1057 2 #[133] #[{ accessFlags := 132, nameIndex := 11, descriptorIndex := 12, attributes := #[] }])
  fields := #[{ name := "modCount", type := .int, accessFlags := 132, slot := 0, constantValue := 0 }]
  methods := #[k18m0]
  instanceTypes := #[.int]
  staticTypes := #[]
  resolved := Array.replicate 218 none
  statics := none }

def pool19 : Array CpInfo := pool [(1, .class_ 2), (0, u "java/util/RandomAccess"), (0, .class_ 4), (0, u "java/lang/Object")] 2

/-- java/util/RandomAccess -/
def k19 : Class := { plain "java/util/RandomAccess" (some 0) with
  accessFlags := 1537
  interfaces := #[]
  cf := some (fileOf pool19 1 #[] #[] 1537 3 #[] #[])
  fields := #[]
  methods := #[]
  instanceTypes := #[]
  staticTypes := #[]
  resolved := Array.replicate 7 none
  statics := none }

def pool20 : Array CpInfo := pool [(1, .class_ 2), (0, u "java/lang/Cloneable"), (0, .class_ 4), (0, u "java/lang/Object")] 2

/-- java/lang/Cloneable -/
def k20 : Class := { plain "java/lang/Cloneable" (some 0) with
  accessFlags := 1537
  interfaces := #[]
  cf := some (fileOf pool20 1 #[] #[] 1537 3 #[] #[])
  fields := #[]
  methods := #[]
  instanceTypes := #[]
  staticTypes := #[]
  resolved := Array.replicate 7 none
  statics := none }

def pool21 : Array CpInfo := pool [(1, .methodref 2 3), (0, .class_ 4), (0, .nameAndType 5 6), (0, u "java/util/AbstractList"), (0, u "<init>"), (0, u "()V"), (0, .class_ 8), (0, u "java/lang/Object"), (0, .fieldref 10 11), (0, .class_ 12), (0, .nameAndType 13 14), (0, u "java/util/ArrayList"), (0, u "elementData"), (0, u "[Ljava/lang/Object;"), (2, u "EMPTY_ELEMENTDATA"), (23, u "DEFAULTCAPACITY_EMPTY_ELEMENTDATA"), (6, .fieldref 10 49), (0, .nameAndType 50 51), (0, u "size"), (0, u "I"), (11, .fieldref 10 64), (0, .nameAndType 65 51), (0, u "modCount"), (18, u "(II)I"), (11, u "(Ljava/lang/Object;)Z"), (21, .methodref 119 120), (0, .class_ 121), (0, .nameAndType 122 84), (0, u "java/util/Objects"), (0, u "checkIndex"), (0, .methodref 10 124), (0, .nameAndType 13 125), (0, u "(I)Ljava/lang/Object;"), (5, .methodref 10 132), (0, .nameAndType 133 134), (0, u "add"), (0, u "(Ljava/lang/Object;[Ljava/lang/Object;I)V"), (3, u "(I)V"), (9, .class_ 149), (0, u "java/util/List"), (36, u "()I"), (75, .class_ 263), (0, u "java/util/ArrayList$ListItr"), (3, .class_ 268), (0, u "java/util/ArrayList$Itr"), (7, .class_ 277), (0, u "java/util/ArrayList$SubList"), (12, .class_ 291), (0, u "java/util/ArrayList$ArrayListSpliterator"), (37, .class_ 330), (0, u "java/util/RandomAccess"), (0, .class_ 332), (0, u "java/lang/Cloneable"), (0, .class_ 334), (0, u "java/io/Serializable"), (0, u "serialVersionUID"), (0, u "J"), (3, u "DEFAULT_CAPACITY"), (40, u "get"), (118, .class_ 501), (0, u "java/util/ArrayList$SubList$2"), (0, .class_ 503), (0, u "java/util/ArrayList$SubList$1")] 5

def k21c0 : Code := { maxStack := 4, maxLocals := 2, code := jdk_38_method_1_code, exceptionTable := #[], attributes := #[] }
def k21m0 : Method := { name := "<init>", desc := "(I)V", sig := { parameters := [.int], returnType := none }, accessFlags := 1, code := some k21c0 }
def k21m1 : Method := { name := "<init>", desc := "()V", sig := { parameters := [], returnType := none }, accessFlags := 1, code := none }
def k21c2 : Code := { maxStack := 1, maxLocals := 1, code := jdk_38_method_8_code, exceptionTable := #[], attributes := #[] }
def k21m2 : Method := { name := "size", desc := "()I", sig := { parameters := [], returnType := some .int }, accessFlags := 1, code := some k21c2 }
def k21c3 : Code := { maxStack := 2, maxLocals := 2, code := jdk_38_method_18_code, exceptionTable := #[], attributes := #[] }
def k21m3 : Method := { name := "elementData", desc := "(I)Ljava/lang/Object;", sig := { parameters := [.int], returnType := some (.object "java/lang/Object") }, accessFlags := 0, code := some k21c3 }
def k21c4 : Code := { maxStack := 2, maxLocals := 2, code := jdk_38_method_20_code, exceptionTable := #[], attributes := #[] }
def k21m4 : Method := { name := "get", desc := "(I)Ljava/lang/Object;", sig := { parameters := [.int], returnType := some (.object "java/lang/Object") }, accessFlags := 1, code := some k21c4 }
def k21c5 : Code := { maxStack := 3, maxLocals := 4, code := jdk_38_method_24_code, exceptionTable := #[], attributes := #[] }
def k21m5 : Method := { name := "add", desc := "(Ljava/lang/Object;[Ljava/lang/Object;I)V", sig := { parameters := [(.object "java/lang/Object"), (.array (.object "java/lang/Object")), .int], returnType := none }, accessFlags := 2, code := some k21c5 }
def k21c6 : Code := { maxStack := 4, maxLocals := 2, code := jdk_38_method_25_code, exceptionTable := #[], attributes := #[] }
def k21m6 : Method := { name := "add", desc := "(Ljava/lang/Object;)Z", sig := { parameters := [(.object "java/lang/Object")], returnType := some .boolean }, accessFlags := 1, code := some k21c6 }
/-- java/util/ArrayList -/
def k21 : Class := { plain "java/util/ArrayList" (some 18) with
  accessFlags := 33
  interfaces := #[17, 19, 20, 3]
  cf := some (fileOf pool21 10 #[.nestMembers #[290, 276, 500, 502, 262, 267]] #[{ accessFlags := 1, nameIndex := 5, descriptorIndex := 138, attributes := #[] }, { accessFlags := 1, nameIndex := 5, descriptorIndex := 6, attributes := #[] }, { accessFlags := 1, nameIndex := 50, descriptorIndex := 186, attributes := #[] }, { accessFlags := 0, nameIndex := 13, descriptorIndex := 125, attributes := #[] }, { accessFlags := 1, nameIndex := 381, descriptorIndex := 125, attributes := #[] }, { accessFlags := 2, nameIndex := 133, descriptorIndex := 134, attributes := #[] }, { accessFlags := 1, nameIndex := 133, descriptorIndex := 96, attributes := #[] }] 33 2 #[148, 329, 331, 333] #[{ accessFlags := 26, nameIndex := 335, descriptorIndex := 336, attributes := #[] }, { accessFlags := 26, nameIndex := 340, descriptorIndex := 51, attributes := #[] }, { accessFlags := 26, nameIndex := 17, descriptorIndex := 14, attributes := #[] }, { accessFlags := 26, nameIndex := 41, descriptorIndex := 14, attributes := #[] }, { accessFlags := 128, nameIndex := 13, descriptorIndex := 14, attributes := #[] }, { accessFlags := 2, nameIndex := 50, descriptorIndex := 51, attributes := #[] }])
  fields := #[{ name := "serialVersionUID", type := .long, accessFlags := 26, slot := 0, constantValue := 0 }, { name := "DEFAULT_CAPACITY", type := .int, accessFlags := 26, slot := 1, constantValue := 0 }, { name := "EMPTY_ELEMENTDATA", type := (.array (.object "java/lang/Object")), accessFlags := 26, slot := 2, constantValue := 0 }, { name := "DEFAULTCAPACITY_EMPTY_ELEMENTDATA", type := (.array (.object "java/lang/Object")), accessFlags := 26, slot := 3, constantValue := 0 }, { name := "elementData", type := (.array (.object "java/lang/Object")), accessFlags := 128, slot := 1, constantValue := 0 }, { name := "size", type := .int, accessFlags := 2, slot := 2, constantValue := 0 }]
  methods := #[k21m0, k21m1, k21m2, k21m3, k21m4, k21m5, k21m6]
  instanceTypes := #[.int, (.array (.object "java/lang/Object")), .int]
  staticTypes := #[.long, .int, (.array (.object "java/lang/Object")), (.array (.object "java/lang/Object"))]
  resolved := Array.replicate 509 none
  statics := none }

def pool22 : Array CpInfo := pool [(2, .class_ 4), (1, u "java/lang/Object"), (0, u "<init>"), (0, u "()V"), (17, .class_ 26), (1, u "jdk/internal/util/Preconditions"), (6, u "checkIndex"), (15, u "checkFromIndexSize"), (5, .class_ 56), (0, u "jdk/internal/util/Preconditions$4"), (57, .class_ 115), (0, u "jdk/internal/util/Preconditions$1"), (7, u "SIOOBE_FORMATTER"), (0, u "Ljava/util/function/BiFunction;"), (0, .class_ 126), (0, u "jdk/internal/util/Preconditions$2"), (3, u "AIOOBE_FORMATTER"), (0, .class_ 132), (0, u "jdk/internal/util/Preconditions$3"), (3, u "IOOBE_FORMATTER"), (41, u "(IILjava/util/function/BiFunction;)I"), (4, u "(IIILjava/util/function/BiFunction;)I")] 10

def k22m0 : Method := { name := "<init>", desc := "()V", sig := { parameters := [], returnType := none }, accessFlags := 1, code := none }
def k22c1 : Code := { maxStack := 3, maxLocals := 3, code := jdk_41_method_11_code, exceptionTable := #[], attributes := #[] }
def k22m1 : Method := { name := "checkIndex", desc := "(IILjava/util/function/BiFunction;)I", sig := { parameters := [.int, .int, (.object "java/util/function/BiFunction")], returnType := some .int }, accessFlags := 9, code := some k22c1 }
def k22c2 : Code := { maxStack := 4, maxLocals := 4, code := jdk_41_method_13_code, exceptionTable := #[], attributes := #[] }
def k22m2 : Method := { name := "checkFromIndexSize", desc := "(IIILjava/util/function/BiFunction;)I", sig := { parameters := [.int, .int, .int, (.object "java/util/function/BiFunction")], returnType := some .int }, accessFlags := 9, code := some k22c2 }
/-- jdk/internal/util/Preconditions -/
def k22 : Class := { plain "jdk/internal/util/Preconditions" (some 0) with
  accessFlags := 33
  interfaces := #[]
  cf := some (fileOf pool22 24 #[.nestMembers #[55, 131, 125, 114]] #[{ accessFlags := 1, nameIndex := 5, descriptorIndex := 6, attributes := #[] }, { accessFlags := 9, nameIndex := 33, descriptorIndex := 178, attributes := #[] }, { accessFlags := 9, nameIndex := 49, descriptorIndex := 183, attributes := #[] }] 33 2 #[] #[{ accessFlags := 25, nameIndex := 123, descriptorIndex := 124, attributes := #[] }, { accessFlags := 25, nameIndex := 130, descriptorIndex := 124, attributes := #[] }, { accessFlags := 25, nameIndex := 136, descriptorIndex := 124, attributes := #[] }])
  fields := #[{ name := "SIOOBE_FORMATTER", type := (.object "java/util/function/BiFunction"), accessFlags := 25, slot := 0, constantValue := 0 }, { name := "AIOOBE_FORMATTER", type := (.object "java/util/function/BiFunction"), accessFlags := 25, slot := 1, constantValue := 0 }, { name := "IOOBE_FORMATTER", type := (.object "java/util/function/BiFunction"), accessFlags := 25, slot := 2, constantValue := 0 }]
  methods := #[k22m0, k22m1, k22m2]
  instanceTypes := #[]
  staticTypes := #[(.object "java/util/function/BiFunction"), (.object "java/util/function/BiFunction"), (.object "java/util/function/BiFunction")]
  resolved := Array.replicate 194 none
  statics := some 2 }

def pool23 : Array CpInfo := pool [(6, .class_ 8), (1, u "java/lang/Object"), (0, u "<init>"), (0, u "()V"), (0, .methodref 12 13), (0, .class_ 14), (0, .nameAndType 15 16), (0, u "java/lang/StringUTF16"), (0, u "newBytesLength"), (0, u "(I)I"), (3, .integer 1073741823), (23, .fieldref 12 45), (0, .nameAndType 46 47), (0, u "$assertionsDisabled"), (0, u "Z"), (11, .fieldref 12 60), (0, .nameAndType 61 62), (0, u "HI_BYTE_SHIFT"), (0, u "I"), (0, .fieldref 12 64), (0, .nameAndType 65 62), (0, u "LO_BYTE_SHIFT"), (5, .methodref 12 72), (0, .nameAndType 73 74), (0, u "getChar"), (0, u "([BI)C"), (32, .methodref 12 108), (0, .nameAndType 109 110), (0, u "newBytesFor"), (0, u "(I)[B"), (0, .methodref 12 112), (0, .nameAndType 113 114), (0, u "putChar"), (0, u "([BII)V"), (0, .methodref 12 116), (0, .nameAndType 117 118), (0, u "compress"), (0, u "([CI[BII)I"), (0, .methodref 12 120), (0, .nameAndType 121 122), (0, u "toBytes"), (0, u "([CII)[B"), (138, u "coderFromArrayLen"), (0, u "([BI)B"), (106, .class_ 371), (1, u "java/lang/StringUTF16$LinesSpliterator"), (58, u "MAX_LENGTH"), (44, u "(C)[B"), (151, .class_ 628), (0, u "java/lang/StringUTF16$CodePointsSpliterator"), (0, .class_ 630), (0, u "java/lang/StringUTF16$CharsSpliterator")] 4

def k23m0 : Method := { name := "<init>", desc := "()V", sig := { parameters := [], returnType := none }, accessFlags := 0, code := none }
def k23c1 : Code := { maxStack := 1, maxLocals := 1, code := jdk_52_method_2_code, exceptionTable := #[], attributes := #[] }
def k23m1 : Method := { name := "newBytesFor", desc := "(I)[B", sig := { parameters := [.int], returnType := some (.array .byte) }, accessFlags := 9, code := some k23c1 }
def k23c2 : Code := { maxStack := 4, maxLocals := 1, code := jdk_52_method_3_code, exceptionTable := #[], attributes := #[] }
def k23m2 : Method := { name := "newBytesLength", desc := "(I)I", sig := { parameters := [.int], returnType := some .int }, accessFlags := 9, code := some k23c2 }
def k23c3 : Code := { maxStack := 4, maxLocals := 3, code := jdk_52_method_4_code, exceptionTable := #[], attributes := #[] }
def k23m3 : Method := { name := "putChar", desc := "([BII)V", sig := { parameters := [(.array .byte), .int, .int], returnType := none }, accessFlags := 8, code := some k23c3 }
def k23c4 : Code := { maxStack := 3, maxLocals := 2, code := jdk_52_method_5_code, exceptionTable := #[], attributes := #[] }
def k23m4 : Method := { name := "getChar", desc := "([BI)C", sig := { parameters := [(.array .byte), .int], returnType := some .char }, accessFlags := 8, code := some k23c4 }
def k23c5 : Code := { maxStack := 4, maxLocals := 5, code := jdk_52_method_14_code, exceptionTable := #[], attributes := #[] }
def k23m5 : Method := { name := "toBytes", desc := "([CII)[B", sig := { parameters := [(.array .char), .int, .int], returnType := some (.array .byte) }, accessFlags := 9, code := some k23c5 }
def k23c6 : Code := { maxStack := 2, maxLocals := 2, code := jdk_52_method_15_code, exceptionTable := #[], attributes := #[] }
def k23m6 : Method := { name := "coderFromArrayLen", desc := "([BI)B", sig := { parameters := [(.array .byte), .int], returnType := some .byte }, accessFlags := 8, code := some k23c6 }
def k23c7 : Code := { maxStack := 5, maxLocals := 6, code := jdk_52_method_16_code, exceptionTable := #[], attributes := #[] }
def k23m7 : Method := { name := "compress", desc := "([CII)[B", sig := { parameters := [(.array .char), .int, .int], returnType := some (.array .byte) }, accessFlags := 9, code := some k23c7 }
def k23c8 : Code := { maxStack := 3, maxLocals := 7, code := jdk_52_method_21_code, exceptionTable := #[], attributes := #[] }
def k23m8 : Method := { name := "compress", desc := "([CI[BII)I", sig := { parameters := [(.array .char), .int, (.array .byte), .int, .int], returnType := some .int }, accessFlags := 9, code := some k23c8 }
def k23c9 : Code := { maxStack := 3, maxLocals := 2, code := jdk_52_method_24_code, exceptionTable := #[], attributes := #[] }
def k23m9 : Method := { name := "toBytes", desc := "(C)[B", sig := { parameters := [.char], returnType := some (.array .byte) }, accessFlags := 9, code := some k23c9 }
/-- java/lang/StringUTF16 -/
def k23 : Class := { plain "java/lang/StringUTF16" (some 0) with
  accessFlags := 48
  interfaces := #[]
  cf := some (fileOf pool23 12 #[.nestMembers #[627, 629, 369]] #[{ accessFlags := 0, nameIndex := 9, descriptorIndex := 10, attributes := #[] }, { accessFlags := 9, nameIndex := 109, descriptorIndex := 110, attributes := #[] }, { accessFlags := 9, nameIndex := 15, descriptorIndex := 16, attributes := #[] }, { accessFlags := 8, nameIndex := 113, descriptorIndex := 114, attributes := #[] }, { accessFlags := 8, nameIndex := 73, descriptorIndex := 74, attributes := #[] }, { accessFlags := 9, nameIndex := 121, descriptorIndex := 122, attributes := #[] }, { accessFlags := 8, nameIndex := 261, descriptorIndex := 262, attributes := #[] }, { accessFlags := 9, nameIndex := 117, descriptorIndex := 122, attributes := #[] }, { accessFlags := 9, nameIndex := 117, descriptorIndex := 118, attributes := #[] }, { accessFlags := 9, nameIndex := 121, descriptorIndex := 475, attributes := #[] }] 48 6 #[] #[{ accessFlags := 26, nameIndex := 61, descriptorIndex := 62, attributes := #[] }, { accessFlags := 26, nameIndex := 65, descriptorIndex := 62, attributes := #[] }, { accessFlags := 24, nameIndex := 430, descriptorIndex := 62, attributes := #[] }, { accessFlags := 4120, nameIndex := 46, descriptorIndex := 47, attributes := #[] }])
  fields := #[{ name := "HI_BYTE_SHIFT", type := .int, accessFlags := 26, slot := 0, constantValue := 0 }, { name := "LO_BYTE_SHIFT", type := .int, accessFlags := 26, slot := 1, constantValue := 0 }, { name := "MAX_LENGTH", type := .int, accessFlags := 24, slot := 2, constantValue := 0 }, { name := "$assertionsDisabled", type := .boolean, accessFlags := 4120, slot := 3, constantValue := 0 }]
  methods := #[k23m0, k23m1, k23m2, k23m3, k23m4, k23m5, k23m6, k23m7, k23m8, k23m9]
  instanceTypes := #[]
  staticTypes := #[.int, .int, .int, .boolean]
  resolved := Array.replicate 635 none
  statics := some 3 }

def pool24 : Array CpInfo := pool [(2, .class_ 4), (1, u "java/lang/Object"), (0, u "<init>"), (0, u "()V"), (35, .class_ 44), (1, u "java/util/Objects"), (60, .methodref 106 107), (0, .class_ 108), (0, .nameAndType 109 110), (0, u "jdk/internal/util/Preconditions"), (0, u "checkIndex"), (0, u "(IILjava/util/function/BiFunction;)I"), (60, u "(II)I")] 12

def k24m0 : Method := { name := "<init>", desc := "()V", sig := { parameters := [], returnType := none }, accessFlags := 2, code := none }
def k24c1 : Code := { maxStack := 3, maxLocals := 2, code := jdk_31_method_17_code, exceptionTable := #[], attributes := #[] }
def k24m1 : Method := { name := "checkIndex", desc := "(II)I", sig := { parameters := [.int, .int], returnType := some .int }, accessFlags := 9, code := some k24c1 }
/-- java/util/Objects -/
def k24 : Class := { plain "java/util/Objects" (some 0) with
  accessFlags := 49
  interfaces := #[]
  cf := some (fileOf pool24 42 #[] #[{ accessFlags := 2, nameIndex := 5, descriptorIndex := 6, attributes := #[] }, { accessFlags := 9, nameIndex := 109, descriptorIndex := 171, attributes := #[] }] 49 2 #[] #[])
  fields := #[]
  methods := #[k24m0, k24m1]
  instanceTypes := #[]
  staticTypes := #[]
  resolved := Array.replicate 184 none
  statics := none }

def pool25 : Array CpInfo := pool [(4, .class_ 6), (1, u "java/lang/Object"), (0, u "<init>"), (0, u "()V"), (5, .class_ 16), (1, u "java/lang/StringLatin1"), (73, u "canEncode"), (14, u "(C)Z"), (15, u "$assertionsDisabled"), (0, u "Z"), (98, .class_ 223), (1, u "java/lang/StringLatin1$LinesSpliterator"), (57, u "equals"), (0, u "([B[B)Z"), (97, u "toBytes"), (1, u "(C)[B"), (7, .class_ 391), (0, u "java/lang/StringLatin1$CharsSpliterator")] 3

def k25m0 : Method := { name := "<init>", desc := "()V", sig := { parameters := [], returnType := none }, accessFlags := 0, code := none }
def k25c1 : Code := { maxStack := 2, maxLocals := 1, code := jdk_43_method_3_code, exceptionTable := #[], attributes := #[] }
def k25m1 : Method := { name := "canEncode", desc := "(C)Z", sig := { parameters := [.char], returnType := some .boolean }, accessFlags := 9, code := some k25c1 }
def k25c2 : Code := { maxStack := 3, maxLocals := 3, code := jdk_43_method_13_code, exceptionTable := #[], attributes := #[] }
def k25m2 : Method := { name := "equals", desc := "([B[B)Z", sig := { parameters := [(.array .byte), (.array .byte)], returnType := some .boolean }, accessFlags := 9, code := some k25c2 }
def k25c3 : Code := { maxStack := 4, maxLocals := 1, code := jdk_43_method_46_code, exceptionTable := #[], attributes := #[] }
def k25m3 : Method := { name := "toBytes", desc := "(C)[B", sig := { parameters := [.char], returnType := some (.array .byte) }, accessFlags := 9, code := some k25c3 }
/-- java/lang/StringLatin1 -/
def k25 : Class := { plain "java/lang/StringLatin1" (some 0) with
  accessFlags := 48
  interfaces := #[]
  cf := some (fileOf pool25 14 #[.nestMembers #[390, 221]] #[{ accessFlags := 0, nameIndex := 7, descriptorIndex := 8, attributes := #[] }, { accessFlags := 9, nameIndex := 90, descriptorIndex := 105, attributes := #[] }, { accessFlags := 9, nameIndex := 281, descriptorIndex := 282, attributes := #[] }, { accessFlags := 9, nameIndex := 380, descriptorIndex := 382, attributes := #[] }] 48 4 #[] #[{ accessFlags := 4120, nameIndex := 121, descriptorIndex := 122, attributes := #[] }])
  fields := #[{ name := "$assertionsDisabled", type := .boolean, accessFlags := 4120, slot := 0, constantValue := 0 }]
  methods := #[k25m0, k25m1, k25m2, k25m3]
  instanceTypes := #[]
  staticTypes := #[.boolean]
  resolved := Array.replicate 395 none
  statics := none }

def pool26 : Array CpInfo := pool [(9, u "<init>"), (6, .class_ 18), (1, u "java/lang/Object"), (0, u "()V"), (1, .class_ 23), (1, u "jdk/internal/util/ArraysSupport"), (0, u "LOG2_ARRAY_LONG_INDEX_SCALE"), (0, u "I"), (2, u "U"), (0, u "Ljdk/internal/misc/Unsafe;"), (8, u "BIG_ENDIAN"), (0, u "Z"), (8, u "LOG2_BYTE_BIT_SIZE"), (4, u "LOG2_ARRAY_INT_INDEX_SCALE"), (54, u "JLA"), (0, u "Ljdk/internal/access/JavaLangAccess;"), (11, u "LOG2_ARRAY_BOOLEAN_INDEX_SCALE"), (9, u "LOG2_ARRAY_BYTE_INDEX_SCALE"), (5, u "LOG2_ARRAY_CHAR_INDEX_SCALE"), (5, u "LOG2_ARRAY_SHORT_INDEX_SCALE"), (18, u "LOG2_ARRAY_FLOAT_INDEX_SCALE"), (24, u "LOG2_ARRAY_DOUBLE_INDEX_SCALE"), (89, u "T_BOOLEAN"), (2, u "T_CHAR"), (1, u "T_FLOAT"), (1, u "T_DOUBLE"), (1, u "T_BYTE"), (1, u "T_SHORT"), (1, u "T_INT"), (1, u "T_LONG"), (1, u "SOFT_MAX_ARRAY_LENGTH")] 83

def k26m0 : Method := { name := "<init>", desc := "()V", sig := { parameters := [], returnType := none }, accessFlags := 2, code := none }
/-- jdk/internal/util/ArraysSupport -/
def k26 : Class := { plain "jdk/internal/util/ArraysSupport" (some 0) with
  accessFlags := 33
  interfaces := #[]
  cf := some (fileOf pool26 21 #[] #[{ accessFlags := 2, nameIndex := 9, descriptorIndex := 19, attributes := #[] }] 33 16 #[] #[{ accessFlags := 24, nameIndex := 28, descriptorIndex := 29, attributes := #[] }, { accessFlags := 26, nameIndex := 38, descriptorIndex := 39, attributes := #[] }, { accessFlags := 25, nameIndex := 121, descriptorIndex := 25, attributes := #[] }, { accessFlags := 25, nameIndex := 131, descriptorIndex := 25, attributes := #[] }, { accessFlags := 25, nameIndex := 137, descriptorIndex := 25, attributes := #[] }, { accessFlags := 25, nameIndex := 143, descriptorIndex := 25, attributes := #[] }, { accessFlags := 25, nameIndex := 53, descriptorIndex := 25, attributes := #[] }, { accessFlags := 25, nameIndex := 24, descriptorIndex := 25, attributes := #[] }, { accessFlags := 25, nameIndex := 162, descriptorIndex := 25, attributes := #[] }, { accessFlags := 25, nameIndex := 187, descriptorIndex := 25, attributes := #[] }, { accessFlags := 26, nameIndex := 48, descriptorIndex := 25, attributes := #[] }, { accessFlags := 25, nameIndex := 277, descriptorIndex := 25, attributes := #[] }, { accessFlags := 25, nameIndex := 280, descriptorIndex := 25, attributes := #[] }, { accessFlags := 25, nameIndex := 282, descriptorIndex := 25, attributes := #[] }, { accessFlags := 25, nameIndex := 284, descriptorIndex := 25, attributes := #[] }, { accessFlags := 25, nameIndex := 286, descriptorIndex := 25, attributes := #[] }, { accessFlags := 25, nameIndex := 288, descriptorIndex := 25, attributes := #[] }, { accessFlags := 25, nameIndex := 290, descriptorIndex := 25, attributes := #[] }, { accessFlags := 25, nameIndex := 292, descriptorIndex := 25, attributes := #[] }, { accessFlags := 26, nameIndex := 108, descriptorIndex := 109, attributes := #[] }, { accessFlags := 25, nameIndex := 294, descriptorIndex := 25, attributes := #[] }])
  fields := #[{ name := "U", type := (.object "jdk/internal/misc/Unsafe"), accessFlags := 24, slot := 0, constantValue := 0 }, { name := "BIG_ENDIAN", type := .boolean, accessFlags := 26, slot := 1, constantValue := 0 }, { name := "LOG2_ARRAY_BOOLEAN_INDEX_SCALE", type := .int, accessFlags := 25, slot := 2, constantValue := 0 }, { name := "LOG2_ARRAY_BYTE_INDEX_SCALE", type := .int, accessFlags := 25, slot := 3, constantValue := 0 }, { name := "LOG2_ARRAY_CHAR_INDEX_SCALE", type := .int, accessFlags := 25, slot := 4, constantValue := 0 }, { name := "LOG2_ARRAY_SHORT_INDEX_SCALE", type := .int, accessFlags := 25, slot := 5, constantValue := 0 }, { name := "LOG2_ARRAY_INT_INDEX_SCALE", type := .int, accessFlags := 25, slot := 6, constantValue := 0 }, { name := "LOG2_ARRAY_LONG_INDEX_SCALE", type := .int, accessFlags := 25, slot := 7, constantValue := 0 }, { name := "LOG2_ARRAY_FLOAT_INDEX_SCALE", type := .int, accessFlags := 25, slot := 8, constantValue := 0 }, { name := "LOG2_ARRAY_DOUBLE_INDEX_SCALE", type := .int, accessFlags := 25, slot := 9, constantValue := 0 }, { name := "LOG2_BYTE_BIT_SIZE", type := .int, accessFlags := 26, slot := 10, constantValue := 0 }, { name := "T_BOOLEAN", type := .int, accessFlags := 25, slot := 11, constantValue := 0 }, { name := "T_CHAR", type := .int, accessFlags := 25, slot := 12, constantValue := 0 }, { name := "T_FLOAT", type := .int, accessFlags := 25, slot := 13, constantValue := 0 }, { name := "T_DOUBLE", type := .int, accessFlags := 25, slot := 14, constantValue := 0 }, { name := "T_BYTE", type := .int, accessFlags := 25, slot := 15, constantValue := 0 }, { name := "T_SHORT", type := .int, accessFlags := 25, slot := 16, constantValue := 0 }, { name := "T_INT", type := .int, accessFlags := 25, slot := 17, constantValue := 0 }, { name := "T_LONG", type := .int, accessFlags := 25, slot := 18, constantValue := 0 }, { name := "JLA", type := (.object "jdk/internal/access/JavaLangAccess"), accessFlags := 26, slot := 19, constantValue := 0 }, { name := "SOFT_MAX_ARRAY_LENGTH", type := .int, accessFlags := 25, slot := 20, constantValue := 0 }]
  methods := #[k26m0]
  instanceTypes := #[]
  staticTypes := #[(.object "jdk/internal/misc/Unsafe"), .boolean, .int, .int, .int, .int, .int, .int, .int, .int, .int, .int, .int, .int, .int, .int, .int, .int, .int, (.object "jdk/internal/access/JavaLangAccess"), .int]
  resolved := Array.replicate 378 none
  statics := none }

def pool27 : Array CpInfo := pool [(2, .class_ 4), (1, u "java/lang/Object"), (0, u "<init>"), (0, u "()V"), (1, .class_ 10), (1, u "java/util/AbstractMap"), (42, .class_ 54), (0, u "java/util/Map"), (9, u "keySet"), (0, u "Ljava/util/Set;"), (0, .class_ 67), (0, u "java/util/AbstractMap$1"), (5, u "values"), (0, u "Ljava/util/Collection;"), (0, .class_ 76), (0, u "java/util/AbstractMap$2"), (104, .class_ 182), (0, u "java/util/AbstractMap$ViewCollection"), (0, .class_ 184), (0, u "java/util/AbstractMap$SimpleImmutableEntry"), (0, .class_ 186), (0, u "java/util/AbstractMap$SimpleEntry"), (0, .class_ 188), (0, u "java/util/AbstractMap$2$1"), (0, .class_ 190), (0, u "java/util/AbstractMap$1$1")] 5

def k27m0 : Method := { name := "<init>", desc := "()V", sig := { parameters := [], returnType := none }, accessFlags := 4, code := none }
/-- java/util/AbstractMap -/
def k27 : Class := { plain "java/util/AbstractMap" (some 0) with
  accessFlags := 1057
  interfaces := #[9]
  cf := some (fileOf pool27 8 #[.nestMembers #[181, 183, 185, 75, 187, 66, 189]] #[{ accessFlags := 4, nameIndex := 5, descriptorIndex := 6, attributes := #[] }] 1057 2 #[53] #[{ accessFlags := 128, nameIndex := 64, descriptorIndex := 65, attributes := #[] }, { accessFlags := 128, nameIndex := 73, descriptorIndex := 74, attributes := #[] }])
  fields := #[{ name := "keySet", type := (.object "java/util/Set"), accessFlags := 128, slot := 0, constantValue := 0 }, { name := "values", type := (.object "java/util/Collection"), accessFlags := 128, slot := 1, constantValue := 0 }]
  methods := #[k27m0]
  instanceTypes := #[(.object "java/util/Set"), (.object "java/util/Collection")]
  staticTypes := #[]
  resolved := Array.replicate 196 none
  statics := none }

def pool28 : Array CpInfo := pool [(2, .class_ 4), (1, u "java/util/AbstractMap"), (0, u "<init>"), (0, u "()V"), (1, .class_ 10), (1, u "java/util/ImmutableCollections"), (3, .class_ 16), (1, u "java/util/ImmutableCollections$AbstractImmutableMap"), (2, .class_ 20), (0, u "java/io/Serializable")] 66

def k28m0 : Method := { name := "<init>", desc := "()V", sig := { parameters := [], returnType := none }, accessFlags := 0, code := none }
/-- java/util/ImmutableCollections$AbstractImmutableMap -/
def k28 : Class := { plain "java/util/ImmutableCollections$AbstractImmutableMap" (some 27) with
  accessFlags := 1056
  interfaces := #[3]
  cf := some (fileOf pool28 14 #[.nestHost 8] #[{ accessFlags := 0, nameIndex := 5, descriptorIndex := 6, attributes := #[] }] 1056 2 #[19] #[])
  fields := #[]
  methods := #[k28m0]
  instanceTypes := #[(.object "java/util/Set"), (.object "java/util/Collection")]
  staticTypes := #[]
  resolved := Array.replicate 87 none
  statics := none }

def pool29 : Array CpInfo := pool [(1, .class_ 2), (0, u "java/util/ImmutableCollections"), (1, .class_ 6), (1, u "java/util/ImmutableCollections$AbstractImmutableMap"), (10, .class_ 19), (1, u "java/util/ImmutableCollections$MapN"), (0, u "size"), (0, u "I"), (4, u "table"), (0, u "[Ljava/lang/Object;")] 121

/-- java/util/ImmutableCollections$MapN -/
def k29 : Class := { plain "java/util/ImmutableCollections$MapN" (some 28) with
  accessFlags := 48
  interfaces := #[]
  cf := some (fileOf pool29 17 #[.nestHost 1] #[] 48 4 #[] #[{ accessFlags := 16, nameIndex := 26, descriptorIndex := 27, attributes := #[] }, { accessFlags := 16, nameIndex := 20, descriptorIndex := 21, attributes := #[] }])
  fields := #[{ name := "table", type := (.array (.object "java/lang/Object")), accessFlags := 16, slot := 2, constantValue := 0 }, { name := "size", type := .int, accessFlags := 16, slot := 3, constantValue := 0 }]
  methods := #[]
  instanceTypes := #[(.object "java/util/Set"), (.object "java/util/Collection"), (.array (.object "java/lang/Object")), .int]
  staticTypes := #[]
  resolved := Array.replicate 149 none
  statics := none }

/-- the primitive byte -/
def k30 : Class := { plain "byte" none with kind := .primitive 'B', accessFlags := 0x411 }
/-- [B -/
def k31 : Class := { plain "[B" (some 0) with kind := .array 30 .byte, interfaces := #[20, 3], accessFlags := 1041 }

/-- the primitive char -/
def k32 : Class := { plain "char" none with kind := .primitive 'C', accessFlags := 0x411 }
/-- [C -/
def k33 : Class := { plain "[C" (some 0) with kind := .array 32 .char, interfaces := #[20, 3], accessFlags := 1041 }

/-- the primitive int -/
def k34 : Class := { plain "int" none with kind := .primitive 'I', accessFlags := 0x411 }
/-- [I -/
def k35 : Class := { plain "[I" (some 0) with kind := .array 34 .int, interfaces := #[20, 3], accessFlags := 1041 }

/-- [Ljava/lang/Object; -/
def k36 : Class := { plain "[Ljava/lang/Object;" (some 0) with kind := .array 0 (.object "java/lang/Object"), interfaces := #[20, 3], accessFlags := 1041 }

def heap : Heap := #[{ cls := 8, slots := #[.long 0, .int 1, .null, .int 0, .null, .int 0, .int 0], vm := .statics 8 },
  { cls := 10, slots := #[.long 0, .int 0, .null, .null, .null, .null, .null, .ref 4, .int 0, .int 0], vm := .statics 10 },
  { cls := 22, slots := #[.null, .null, .null], vm := .statics 22 },
  { cls := 23, slots := #[.int 0, .int 8, .int 0, .int 1], vm := .statics 23 },
  { cls := 29, slots := #[.null, .null, .ref 5, .int 0], vm := .none },
  { cls := 36, slots := #[], vm := .none }]
def classes : Array Class := #[k0, k1, k2, k3, k4, k5, k6, k7, k8, k9, k10, k11, k12, k13, k14, k15, k16, k17, k18, k19, k20, k21, k22, k23, k24, k25, k26, k27, k28, k29, k30, k31, k32, k33, k34, k35, k36]
def interned : List (Array UInt16 × Addr) := []
def slotsUsed : Nat := 28
def theMethod : MethodId := ⟨1, 1⟩
def args0 : Array Value := #[.int 5, .int 6, .int 7, .int 8, .int 7]
def aboutOver (below : List Frame) : State where
  vm := { classes := classes, interned := interned.toArray }
  heap := heap
  slotsUsed := slotsUsed
  threads := #[{ frames := .invoking theMethod args0 :: below }]
def below0 : List Frame := [.native { method := ⟨0, 0⟩, args := #[] }]
def about1 : State := aboutOver below0
def p0 : Program := .bare "" "" ""
def e0 : Env := launch0.env 0 0 0
theorem w_frames : about1.frames = Frame.invoking theMethod args0 :: below0 := rfl
set_option maxRecDepth 65536 in
theorem w_args : argsFit about1.vm theMethod args0 = true := by decide +kernel
set_option maxRecDepth 65536 in
theorem w_heap : heapFits about1 = true := by decide +kernel
set_option maxRecDepth 65536 in
theorem w_runnable : about1.curStatus? = some .runnable := by decide +kernel
set_option maxRecDepth 65536 in
theorem w_alone : about1.alone = true := by decide +kernel
set_option maxRecDepth 65536 in
theorem w_named : about1.methodNamed? x = some theMethod := by decide +kernel
set_option maxRecDepth 65536 in
theorem w_hears : about1.hears theMethod below0 = true := by decide +kernel
set_option maxRecDepth 65536 in
theorem w_ripe : about1.ripe theMethod args0 below0 = true := by decide +kernel
theorem w_running : about1.status = .running := rfl
set_option maxRecDepth 65536 in
theorem w_room : about1.hasRoom e0.platform room_1 = true :=
  launch0.hasRoom_least _ room_1 (by decide +kernel) (by decide +kernel) (by decide +kernel) (by decide +kernel) (by decide +kernel) (by decide +kernel)
theorem allAtoms_all (ts : List Jvm.Cond) (a : Array Jvm.Value) (st : Jvm.State) : (allAtoms ts).before a st = ts.all (fun c => c.before a st) := by
  induction ts with
  | nil => rfl
  | cons c t ih =>
    show (Jvm.Cond.and c (allAtoms t)).before a st = _
    rw [Jvm.Cond.before_and, ih, List.all_cons]
def words1 : List Jvm.Cond := Jvm.Cond.code x code maxLocals ret :: tables_1
/-- a 'code' word, met by the world's own term for the bytes: nothing is compared byte by byte -/
theorem code_word {y : MethodName} {bytes : ByteArray} {mx : Nat} {rt : Option FieldType} {a : Array Value} {s : State} {m : MethodId} {meth : Method} {c : Code} (h1 : s.methodNamed? y = some m) (h2 : s.vm.method? m = some meth) (h3 : meth.code = some c) (h4 : c.code = bytes)
    (h5 : (c.maxLocals == mx && c.exceptionTable.isEmpty && decide (c.maxStack ≤ mostOperands) && decide (meth.sig.returnType = rt) && !meth.locks && decide (parseMethodDescriptor y.desc = some meth.sig)) = true) : (Jvm.Cond.code y bytes mx rt).before a s = true := by
  simp only [Bool.and_eq_true, beq_iff_eq, Bool.not_eq_true', decide_eq_true_eq] at h5
  obtain ⟨⟨⟨⟨⟨g1, g2⟩, g3⟩, g4⟩, g5⟩, g6⟩ := h5
  simp [Cond.before, Cond.holds, Cond.value, h1, h2, h3, h4, g1, g2, g3, g4, g5, g6]
def isCode : Jvm.Cond → Bool
  | .code _ _ _ _ => true
  | _ => false
theorem all_split {L : List Jvm.Cond} {P : Jvm.Cond → Bool} (h1 : L.all (fun c => isCode c || P c) = true) (h2 : ∀ c ∈ L.filter isCode, P c = true) : L.all P = true := by
  refine List.all_eq_true.mpr fun c hc => ?_
  have h := List.all_eq_true.mp h1 c hc
  rcases Bool.eq_false_or_eq_true (isCode c) with hi | hi
  · exact h2 c (List.mem_filter.mpr ⟨hc, hi⟩)
  · simpa [hi] using h
set_option maxRecDepth 65536 in
theorem w_c0 : (Jvm.Cond.code x code maxLocals ret).before args0 about1 = true := code_word (m := ⟨1, 1⟩) (meth := k1m1) (c := k1c1) (by decide +kernel) rfl rfl rfl (by decide +kernel)
set_option maxRecDepth 65536 in
theorem w_c1 : (Jvm.Cond.code ({ cls := "com/example/capwright/capwright/csv/CsvRow", name := "<init>", desc := "(Ljava/lang/String;)V" } : Jvm.MethodName) prog_18_method_1_code (2 : Nat) (Option.none : Option Jvm.ClassFile.FieldType)).before args0 about1 = true := code_word (m := ⟨2, 0⟩) (meth := k2m0) (c := k2c0) (by decide +kernel) rfl rfl rfl (by decide +kernel)
set_option maxRecDepth 65536 in
theorem w_c2 : (Jvm.Cond.code ({ cls := "java/util/Map", name := "of", desc := "()Ljava/util/Map;" } : Jvm.MethodName) jdk_72_method_26_code (0 : Nat) (Option.some (Jvm.ClassFile.FieldType.object "java/util/Map"))).before args0 about1 = true := code_word (m := ⟨9, 0⟩) (meth := k9m0) (c := k9c0) (by decide +kernel) rfl rfl rfl (by decide +kernel)
set_option maxRecDepth 65536 in
theorem w_c3 : (Jvm.Cond.code ({ cls := "com/example/capwright/capwright/csv/CsvRow", name := "<init>", desc := "(Ljava/lang/String;ILjava/util/Map;[C[II)V" } : Jvm.MethodName) prog_18_method_2_code (7 : Nat) (Option.none : Option Jvm.ClassFile.FieldType)).before args0 about1 = true := code_word (m := ⟨2, 1⟩) (meth := k2m1) (c := k2c1) (by decide +kernel) rfl rfl rfl (by decide +kernel)
set_option maxRecDepth 65536 in
theorem w_c4 : (Jvm.Cond.code ({ cls := "java/lang/Object", name := "<init>", desc := "()V" } : Jvm.MethodName) object_method_1_code (1 : Nat) (Option.none : Option Jvm.ClassFile.FieldType)).before args0 about1 = true := code_word (m := ⟨0, 0⟩) (meth := k0m0) (c := k0c0) (by decide +kernel) rfl rfl rfl (by decide +kernel)
set_option maxRecDepth 65536 in
theorem w_c5 : (Jvm.Cond.code ({ cls := "com/example/capwright/capwright/csv/CsvRow$FieldText", name := "<init>", desc := "(Lcom/example/capwright/capwright/csv/CsvRow;)V" } : Jvm.MethodName) prog_19_method_1_code (2 : Nat) (Option.none : Option Jvm.ClassFile.FieldType)).before args0 about1 = true := code_word (m := ⟨11, 0⟩) (meth := k11m0) (c := k11c0) (by decide +kernel) rfl rfl rfl (by decide +kernel)
set_option maxRecDepth 65536 in
theorem w_c6 : (Jvm.Cond.code ({ cls := "com/example/capwright/capwright/csv/CsvRow", name := "append", desc := "([CII)V" } : Jvm.MethodName) prog_18_method_4_code (5 : Nat) (Option.none : Option Jvm.ClassFile.FieldType)).before args0 about1 = true := code_word (m := ⟨2, 3⟩) (meth := k2m3) (c := k2c3) (by decide +kernel) rfl rfl rfl (by decide +kernel)
set_option maxRecDepth 65536 in
theorem w_c7 : (Jvm.Cond.code ({ cls := "com/example/capwright/capwright/csv/CsvRow", name := "clear", desc := "(I)V" } : Jvm.MethodName) prog_18_method_3_code (2 : Nat) (Option.none : Option Jvm.ClassFile.FieldType)).before args0 about1 = true := code_word (m := ⟨2, 2⟩) (meth := k2m2) (c := k2c2) (by decide +kernel) rfl rfl rfl (by decide +kernel)
set_option maxRecDepth 65536 in
theorem w_c8 : (Jvm.Cond.code ({ cls := "com/example/capwright/capwright/csv/CsvRow", name := "line", desc := "()I" } : Jvm.MethodName) prog_18_method_13_code (1 : Nat) (Option.some Jvm.ClassFile.FieldType.int)).before args0 about1 = true := code_word (m := ⟨2, 7⟩) (meth := k2m7) (c := k2c7) (by decide +kernel) rfl rfl rfl (by decide +kernel)
set_option maxRecDepth 65536 in
theorem w_c9 : (Jvm.Cond.code ({ cls := "com/example/capwright/capwright/csv/CsvRow", name := "size", desc := "()I" } : Jvm.MethodName) prog_18_method_7_code (1 : Nat) (Option.some Jvm.ClassFile.FieldType.int)).before args0 about1 = true := code_word (m := ⟨2, 5⟩) (meth := k2m5) (c := k2c5) (by decide +kernel) rfl rfl rfl (by decide +kernel)
set_option maxRecDepth 65536 in
theorem w_c10 : (Jvm.Cond.code ({ cls := "com/example/capwright/capwright/csv/CsvRow", name := "endField", desc := "()V" } : Jvm.MethodName) prog_18_method_5_code (1 : Nat) (Option.none : Option Jvm.ClassFile.FieldType)).before args0 about1 = true := code_word (m := ⟨2, 4⟩) (meth := k2m4) (c := k2c4) (by decide +kernel) rfl rfl rfl (by decide +kernel)
set_option maxRecDepth 65536 in
theorem w_c11 : (Jvm.Cond.code ({ cls := "com/example/capwright/capwright/csv/CsvRow", name := "fields", desc := "()Ljava/util/List;" } : Jvm.MethodName) prog_18_method_8_code (4 : Nat) (Option.some (Jvm.ClassFile.FieldType.object "java/util/List"))).before args0 about1 = true := code_word (m := ⟨2, 6⟩) (meth := k2m6) (c := k2c6) (by decide +kernel) rfl rfl rfl (by decide +kernel)
set_option maxRecDepth 65536 in
theorem w_c12 : (Jvm.Cond.code ({ cls := "java/util/ArrayList", name := "<init>", desc := "(I)V" } : Jvm.MethodName) jdk_38_method_1_code (2 : Nat) (Option.none : Option Jvm.ClassFile.FieldType)).before args0 about1 = true := code_word (m := ⟨21, 0⟩) (meth := k21m0) (c := k21c0) (by decide +kernel) rfl rfl rfl (by decide +kernel)
set_option maxRecDepth 65536 in
theorem w_c13 : (Jvm.Cond.code ({ cls := "java/util/AbstractList", name := "<init>", desc := "()V" } : Jvm.MethodName) jdk_39_method_1_code (1 : Nat) (Option.none : Option Jvm.ClassFile.FieldType)).before args0 about1 = true := code_word (m := ⟨18, 0⟩) (meth := k18m0) (c := k18c0) (by decide +kernel) rfl rfl rfl (by decide +kernel)
set_option maxRecDepth 65536 in
theorem w_c14 : (Jvm.Cond.code ({ cls := "java/util/AbstractCollection", name := "<init>", desc := "()V" } : Jvm.MethodName) jdk_22_method_1_code (1 : Nat) (Option.none : Option Jvm.ClassFile.FieldType)).before args0 about1 = true := code_word (m := ⟨15, 0⟩) (meth := k15m0) (c := k15c0) (by decide +kernel) rfl rfl rfl (by decide +kernel)
set_option maxRecDepth 65536 in
theorem w_c15 : (Jvm.Cond.code ({ cls := "java/lang/String", name := "<init>", desc := "([CII)V" } : Jvm.MethodName) jdk_42_method_4_code (4 : Nat) (Option.none : Option Jvm.ClassFile.FieldType)).before args0 about1 = true := code_word (m := ⟨8, 1⟩) (meth := k8m1) (c := k8c1) (by decide +kernel) rfl rfl rfl (by decide +kernel)
set_option maxRecDepth 65536 in
theorem w_c16 : (Jvm.Cond.code ({ cls := "java/lang/String", name := "rangeCheck", desc := "([CII)Ljava/lang/Void;" } : Jvm.MethodName) jdk_42_method_5_code (3 : Nat) (Option.some (Jvm.ClassFile.FieldType.object "java/lang/Void"))).before args0 about1 = true := code_word (m := ⟨8, 2⟩) (meth := k8m2) (c := k8c2) (by decide +kernel) rfl rfl rfl (by decide +kernel)
set_option maxRecDepth 65536 in
theorem w_c17 : (Jvm.Cond.code ({ cls := "java/lang/String", name := "checkBoundsOffCount", desc := "(III)I" } : Jvm.MethodName) jdk_42_method_157_code (3 : Nat) (Option.some Jvm.ClassFile.FieldType.int)).before args0 about1 = true := code_word (m := ⟨8, 7⟩) (meth := k8m7) (c := k8c7) (by decide +kernel) rfl rfl rfl (by decide +kernel)
set_option maxRecDepth 65536 in
theorem w_c18 : (Jvm.Cond.code ({ cls := "jdk/internal/util/Preconditions", name := "checkFromIndexSize", desc := "(IIILjava/util/function/BiFunction;)I" } : Jvm.MethodName) jdk_41_method_13_code (4 : Nat) (Option.some Jvm.ClassFile.FieldType.int)).before args0 about1 = true := code_word (m := ⟨22, 2⟩) (meth := k22m2) (c := k22c2) (by decide +kernel) rfl rfl rfl (by decide +kernel)
set_option maxRecDepth 65536 in
theorem w_c19 : (Jvm.Cond.code ({ cls := "java/lang/String", name := "<init>", desc := "([CIILjava/lang/Void;)V" } : Jvm.MethodName) jdk_42_method_149_code (6 : Nat) (Option.none : Option Jvm.ClassFile.FieldType)).before args0 about1 = true := code_word (m := ⟨8, 5⟩) (meth := k8m5) (c := k8c5) (by decide +kernel) rfl rfl rfl (by decide +kernel)
set_option maxRecDepth 65536 in
theorem w_c20 : (Jvm.Cond.code ({ cls := "java/lang/StringUTF16", name := "compress", desc := "([CII)[B" } : Jvm.MethodName) jdk_52_method_16_code (6 : Nat) (Option.some (Jvm.ClassFile.FieldType.array Jvm.ClassFile.FieldType.byte))).before args0 about1 = true := code_word (m := ⟨23, 7⟩) (meth := k23m7) (c := k23c7) (by decide +kernel) rfl rfl rfl (by decide +kernel)
set_option maxRecDepth 65536 in
theorem w_c21 : (Jvm.Cond.code ({ cls := "java/lang/StringUTF16", name := "compress", desc := "([CI[BII)I" } : Jvm.MethodName) jdk_52_method_21_code (7 : Nat) (Option.some Jvm.ClassFile.FieldType.int)).before args0 about1 = true := code_word (m := ⟨23, 8⟩) (meth := k23m8) (c := k23c8) (by decide +kernel) rfl rfl rfl (by decide +kernel)
set_option maxRecDepth 65536 in
theorem w_c22 : (Jvm.Cond.code ({ cls := "java/lang/StringUTF16", name := "coderFromArrayLen", desc := "([BI)B" } : Jvm.MethodName) jdk_52_method_15_code (2 : Nat) (Option.some Jvm.ClassFile.FieldType.byte)).before args0 about1 = true := code_word (m := ⟨23, 6⟩) (meth := k23m6) (c := k23c6) (by decide +kernel) rfl rfl rfl (by decide +kernel)
set_option maxRecDepth 65536 in
theorem w_c23 : (Jvm.Cond.code ({ cls := "java/util/ArrayList", name := "add", desc := "(Ljava/lang/Object;)Z" } : Jvm.MethodName) jdk_38_method_25_code (2 : Nat) (Option.some Jvm.ClassFile.FieldType.boolean)).before args0 about1 = true := code_word (m := ⟨21, 6⟩) (meth := k21m6) (c := k21c6) (by decide +kernel) rfl rfl rfl (by decide +kernel)
set_option maxRecDepth 65536 in
theorem w_c24 : (Jvm.Cond.code ({ cls := "java/util/ArrayList", name := "add", desc := "(Ljava/lang/Object;[Ljava/lang/Object;I)V" } : Jvm.MethodName) jdk_38_method_24_code (4 : Nat) (Option.none : Option Jvm.ClassFile.FieldType)).before args0 about1 = true := code_word (m := ⟨21, 5⟩) (meth := k21m5) (c := k21c5) (by decide +kernel) rfl rfl rfl (by decide +kernel)
set_option maxRecDepth 65536 in
theorem w_c25 : (Jvm.Cond.code ({ cls := "java/util/ArrayList", name := "size", desc := "()I" } : Jvm.MethodName) jdk_38_method_8_code (1 : Nat) (Option.some Jvm.ClassFile.FieldType.int)).before args0 about1 = true := code_word (m := ⟨21, 2⟩) (meth := k21m2) (c := k21c2) (by decide +kernel) rfl rfl rfl (by decide +kernel)
set_option maxRecDepth 65536 in
theorem w_c26 : (Jvm.Cond.code ({ cls := "java/util/ArrayList", name := "get", desc := "(I)Ljava/lang/Object;" } : Jvm.MethodName) jdk_38_method_20_code (2 : Nat) (Option.some (Jvm.ClassFile.FieldType.object "java/lang/Object"))).before args0 about1 = true := code_word (m := ⟨21, 4⟩) (meth := k21m4) (c := k21c4) (by decide +kernel) rfl rfl rfl (by decide +kernel)
set_option maxRecDepth 65536 in
theorem w_c27 : (Jvm.Cond.code ({ cls := "java/util/Objects", name := "checkIndex", desc := "(II)I" } : Jvm.MethodName) jdk_31_method_17_code (2 : Nat) (Option.some Jvm.ClassFile.FieldType.int)).before args0 about1 = true := code_word (m := ⟨24, 1⟩) (meth := k24m1) (c := k24c1) (by decide +kernel) rfl rfl rfl (by decide +kernel)
set_option maxRecDepth 65536 in
theorem w_c28 : (Jvm.Cond.code ({ cls := "jdk/internal/util/Preconditions", name := "checkIndex", desc := "(IILjava/util/function/BiFunction;)I" } : Jvm.MethodName) jdk_41_method_11_code (3 : Nat) (Option.some Jvm.ClassFile.FieldType.int)).before args0 about1 = true := code_word (m := ⟨22, 1⟩) (meth := k22m1) (c := k22c1) (by decide +kernel) rfl rfl rfl (by decide +kernel)
set_option maxRecDepth 65536 in
theorem w_c29 : (Jvm.Cond.code ({ cls := "java/util/ArrayList", name := "elementData", desc := "(I)Ljava/lang/Object;" } : Jvm.MethodName) jdk_38_method_18_code (2 : Nat) (Option.some (Jvm.ClassFile.FieldType.object "java/lang/Object"))).before args0 about1 = true := code_word (m := ⟨21, 3⟩) (meth := k21m3) (c := k21c3) (by decide +kernel) rfl rfl rfl (by decide +kernel)
set_option maxRecDepth 65536 in
theorem w_c30 : (Jvm.Cond.code ({ cls := "java/lang/String", name := "valueOf", desc := "(C)Ljava/lang/String;" } : Jvm.MethodName) jdk_42_method_139_code (1 : Nat) (Option.some (Jvm.ClassFile.FieldType.object "java/lang/String"))).before args0 about1 = true := code_word (m := ⟨8, 4⟩) (meth := k8m4) (c := k8c4) (by decide +kernel) rfl rfl rfl (by decide +kernel)
set_option maxRecDepth 65536 in
theorem w_c31 : (Jvm.Cond.code ({ cls := "java/lang/StringLatin1", name := "canEncode", desc := "(C)Z" } : Jvm.MethodName) jdk_43_method_3_code (1 : Nat) (Option.some Jvm.ClassFile.FieldType.boolean)).before args0 about1 = true := code_word (m := ⟨25, 1⟩) (meth := k25m1) (c := k25c1) (by decide +kernel) rfl rfl rfl (by decide +kernel)
set_option maxRecDepth 65536 in
theorem w_c32 : (Jvm.Cond.code ({ cls := "java/lang/StringLatin1", name := "toBytes", desc := "(C)[B" } : Jvm.MethodName) jdk_43_method_46_code (1 : Nat) (Option.some (Jvm.ClassFile.FieldType.array Jvm.ClassFile.FieldType.byte))).before args0 about1 = true := code_word (m := ⟨25, 3⟩) (meth := k25m3) (c := k25c3) (by decide +kernel) rfl rfl rfl (by decide +kernel)
set_option maxRecDepth 65536 in
theorem w_c33 : (Jvm.Cond.code ({ cls := "java/lang/String", name := "<init>", desc := "([BB)V" } : Jvm.MethodName) jdk_42_method_151_code (3 : Nat) (Option.none : Option Jvm.ClassFile.FieldType)).before args0 about1 = true := code_word (m := ⟨8, 6⟩) (meth := k8m6) (c := k8c6) (by decide +kernel) rfl rfl rfl (by decide +kernel)
set_option maxRecDepth 65536 in
theorem w_c34 : (Jvm.Cond.code ({ cls := "java/lang/String", name := "equals", desc := "(Ljava/lang/Object;)Z" } : Jvm.MethodName) jdk_42_method_66_code (3 : Nat) (Option.some Jvm.ClassFile.FieldType.boolean)).before args0 about1 = true := code_word (m := ⟨8, 3⟩) (meth := k8m3) (c := k8c3) (by decide +kernel) rfl rfl rfl (by decide +kernel)
set_option maxRecDepth 65536 in
theorem w_c35 : (Jvm.Cond.code ({ cls := "java/lang/StringLatin1", name := "equals", desc := "([B[B)Z" } : Jvm.MethodName) jdk_43_method_13_code (3 : Nat) (Option.some Jvm.ClassFile.FieldType.boolean)).before args0 about1 = true := code_word (m := ⟨25, 2⟩) (meth := k25m2) (c := k25c2) (by decide +kernel) rfl rfl rfl (by decide +kernel)
set_option maxRecDepth 65536 in
theorem w_c36 : (Jvm.Cond.code ({ cls := "java/lang/StringUTF16", name := "toBytes", desc := "([CII)[B" } : Jvm.MethodName) jdk_52_method_14_code (5 : Nat) (Option.some (Jvm.ClassFile.FieldType.array Jvm.ClassFile.FieldType.byte))).before args0 about1 = true := code_word (m := ⟨23, 5⟩) (meth := k23m5) (c := k23c5) (by decide +kernel) rfl rfl rfl (by decide +kernel)
set_option maxRecDepth 65536 in
theorem w_c37 : (Jvm.Cond.code ({ cls := "java/lang/StringUTF16", name := "newBytesFor", desc := "(I)[B" } : Jvm.MethodName) jdk_52_method_2_code (1 : Nat) (Option.some (Jvm.ClassFile.FieldType.array Jvm.ClassFile.FieldType.byte))).before args0 about1 = true := code_word (m := ⟨23, 1⟩) (meth := k23m1) (c := k23c1) (by decide +kernel) rfl rfl rfl (by decide +kernel)
set_option maxRecDepth 65536 in
theorem w_c38 : (Jvm.Cond.code ({ cls := "java/lang/StringUTF16", name := "newBytesLength", desc := "(I)I" } : Jvm.MethodName) jdk_52_method_3_code (1 : Nat) (Option.some Jvm.ClassFile.FieldType.int)).before args0 about1 = true := code_word (m := ⟨23, 2⟩) (meth := k23m2) (c := k23c2) (by decide +kernel) rfl rfl rfl (by decide +kernel)
set_option maxRecDepth 65536 in
theorem w_c39 : (Jvm.Cond.code ({ cls := "java/lang/StringUTF16", name := "putChar", desc := "([BII)V" } : Jvm.MethodName) jdk_52_method_4_code (3 : Nat) (Option.none : Option Jvm.ClassFile.FieldType)).before args0 about1 = true := code_word (m := ⟨23, 3⟩) (meth := k23m3) (c := k23c3) (by decide +kernel) rfl rfl rfl (by decide +kernel)
set_option maxRecDepth 65536 in
theorem w_c40 : (Jvm.Cond.code ({ cls := "java/lang/StringUTF16", name := "getChar", desc := "([BI)C" } : Jvm.MethodName) jdk_52_method_5_code (2 : Nat) (Option.some Jvm.ClassFile.FieldType.char)).before args0 about1 = true := code_word (m := ⟨23, 4⟩) (meth := k23m4) (c := k23c4) (by decide +kernel) rfl rfl rfl (by decide +kernel)
set_option maxRecDepth 65536 in
theorem w_c41 : (Jvm.Cond.code ({ cls := "java/lang/StringUTF16", name := "toBytes", desc := "(C)[B" } : Jvm.MethodName) jdk_52_method_24_code (2 : Nat) (Option.some (Jvm.ClassFile.FieldType.array Jvm.ClassFile.FieldType.byte))).before args0 about1 = true := code_word (m := ⟨23, 9⟩) (meth := k23m9) (c := k23c9) (by decide +kernel) rfl rfl rfl (by decide +kernel)
def codes1 : List Jvm.Cond := [Jvm.Cond.code x code maxLocals ret, Jvm.Cond.code ({ cls := "com/example/capwright/capwright/csv/CsvRow", name := "<init>", desc := "(Ljava/lang/String;)V" } : Jvm.MethodName) prog_18_method_1_code (2 : Nat) (Option.none : Option Jvm.ClassFile.FieldType), Jvm.Cond.code ({ cls := "java/util/Map", name := "of", desc := "()Ljava/util/Map;" } : Jvm.MethodName) jdk_72_method_26_code (0 : Nat) (Option.some (Jvm.ClassFile.FieldType.object "java/util/Map")), Jvm.Cond.code ({ cls := "com/example/capwright/capwright/csv/CsvRow", name := "<init>", desc := "(Ljava/lang/String;ILjava/util/Map;[C[II)V" } : Jvm.MethodName) prog_18_method_2_code (7 : Nat) (Option.none : Option Jvm.ClassFile.FieldType), Jvm.Cond.code ({ cls := "java/lang/Object", name := "<init>", desc := "()V" } : Jvm.MethodName) object_method_1_code (1 : Nat) (Option.none : Option Jvm.ClassFile.FieldType), Jvm.Cond.code ({ cls := "com/example/capwright/capwright/csv/CsvRow$FieldText", name := "<init>", desc := "(Lcom/example/capwright/capwright/csv/CsvRow;)V" } : Jvm.MethodName) prog_19_method_1_code (2 : Nat) (Option.none : Option Jvm.ClassFile.FieldType), Jvm.Cond.code ({ cls := "com/example/capwright/capwright/csv/CsvRow", name := "append", desc := "([CII)V" } : Jvm.MethodName) prog_18_method_4_code (5 : Nat) (Option.none : Option Jvm.ClassFile.FieldType), Jvm.Cond.code ({ cls := "com/example/capwright/capwright/csv/CsvRow", name := "clear", desc := "(I)V" } : Jvm.MethodName) prog_18_method_3_code (2 : Nat) (Option.none : Option Jvm.ClassFile.FieldType), Jvm.Cond.code ({ cls := "com/example/capwright/capwright/csv/CsvRow", name := "line", desc := "()I" } : Jvm.MethodName) prog_18_method_13_code (1 : Nat) (Option.some Jvm.ClassFile.FieldType.int), Jvm.Cond.code ({ cls := "com/example/capwright/capwright/csv/CsvRow", name := "size", desc := "()I" } : Jvm.MethodName) prog_18_method_7_code (1 : Nat) (Option.some Jvm.ClassFile.FieldType.int), Jvm.Cond.code ({ cls := "com/example/capwright/capwright/csv/CsvRow", name := "endField", desc := "()V" } : Jvm.MethodName) prog_18_method_5_code (1 : Nat) (Option.none : Option Jvm.ClassFile.FieldType), Jvm.Cond.code ({ cls := "com/example/capwright/capwright/csv/CsvRow", name := "fields", desc := "()Ljava/util/List;" } : Jvm.MethodName) prog_18_method_8_code (4 : Nat) (Option.some (Jvm.ClassFile.FieldType.object "java/util/List")), Jvm.Cond.code ({ cls := "java/util/ArrayList", name := "<init>", desc := "(I)V" } : Jvm.MethodName) jdk_38_method_1_code (2 : Nat) (Option.none : Option Jvm.ClassFile.FieldType), Jvm.Cond.code ({ cls := "java/util/AbstractList", name := "<init>", desc := "()V" } : Jvm.MethodName) jdk_39_method_1_code (1 : Nat) (Option.none : Option Jvm.ClassFile.FieldType), Jvm.Cond.code ({ cls := "java/util/AbstractCollection", name := "<init>", desc := "()V" } : Jvm.MethodName) jdk_22_method_1_code (1 : Nat) (Option.none : Option Jvm.ClassFile.FieldType), Jvm.Cond.code ({ cls := "java/lang/String", name := "<init>", desc := "([CII)V" } : Jvm.MethodName) jdk_42_method_4_code (4 : Nat) (Option.none : Option Jvm.ClassFile.FieldType), Jvm.Cond.code ({ cls := "java/lang/String", name := "rangeCheck", desc := "([CII)Ljava/lang/Void;" } : Jvm.MethodName) jdk_42_method_5_code (3 : Nat) (Option.some (Jvm.ClassFile.FieldType.object "java/lang/Void")), Jvm.Cond.code ({ cls := "java/lang/String", name := "checkBoundsOffCount", desc := "(III)I" } : Jvm.MethodName) jdk_42_method_157_code (3 : Nat) (Option.some Jvm.ClassFile.FieldType.int), Jvm.Cond.code ({ cls := "jdk/internal/util/Preconditions", name := "checkFromIndexSize", desc := "(IIILjava/util/function/BiFunction;)I" } : Jvm.MethodName) jdk_41_method_13_code (4 : Nat) (Option.some Jvm.ClassFile.FieldType.int), Jvm.Cond.code ({ cls := "java/lang/String", name := "<init>", desc := "([CIILjava/lang/Void;)V" } : Jvm.MethodName) jdk_42_method_149_code (6 : Nat) (Option.none : Option Jvm.ClassFile.FieldType), Jvm.Cond.code ({ cls := "java/lang/StringUTF16", name := "compress", desc := "([CII)[B" } : Jvm.MethodName) jdk_52_method_16_code (6 : Nat) (Option.some (Jvm.ClassFile.FieldType.array Jvm.ClassFile.FieldType.byte)), Jvm.Cond.code ({ cls := "java/lang/StringUTF16", name := "compress", desc := "([CI[BII)I" } : Jvm.MethodName) jdk_52_method_21_code (7 : Nat) (Option.some Jvm.ClassFile.FieldType.int), Jvm.Cond.code ({ cls := "java/lang/StringUTF16", name := "coderFromArrayLen", desc := "([BI)B" } : Jvm.MethodName) jdk_52_method_15_code (2 : Nat) (Option.some Jvm.ClassFile.FieldType.byte), Jvm.Cond.code ({ cls := "java/util/ArrayList", name := "add", desc := "(Ljava/lang/Object;)Z" } : Jvm.MethodName) jdk_38_method_25_code (2 : Nat) (Option.some Jvm.ClassFile.FieldType.boolean), Jvm.Cond.code ({ cls := "java/util/ArrayList", name := "add", desc := "(Ljava/lang/Object;[Ljava/lang/Object;I)V" } : Jvm.MethodName) jdk_38_method_24_code (4 : Nat) (Option.none : Option Jvm.ClassFile.FieldType), Jvm.Cond.code ({ cls := "java/util/ArrayList", name := "size", desc := "()I" } : Jvm.MethodName) jdk_38_method_8_code (1 : Nat) (Option.some Jvm.ClassFile.FieldType.int), Jvm.Cond.code ({ cls := "java/util/ArrayList", name := "get", desc := "(I)Ljava/lang/Object;" } : Jvm.MethodName) jdk_38_method_20_code (2 : Nat) (Option.some (Jvm.ClassFile.FieldType.object "java/lang/Object")), Jvm.Cond.code ({ cls := "java/util/Objects", name := "checkIndex", desc := "(II)I" } : Jvm.MethodName) jdk_31_method_17_code (2 : Nat) (Option.some Jvm.ClassFile.FieldType.int), Jvm.Cond.code ({ cls := "jdk/internal/util/Preconditions", name := "checkIndex", desc := "(IILjava/util/function/BiFunction;)I" } : Jvm.MethodName) jdk_41_method_11_code (3 : Nat) (Option.some Jvm.ClassFile.FieldType.int), Jvm.Cond.code ({ cls := "java/util/ArrayList", name := "elementData", desc := "(I)Ljava/lang/Object;" } : Jvm.MethodName) jdk_38_method_18_code (2 : Nat) (Option.some (Jvm.ClassFile.FieldType.object "java/lang/Object")), Jvm.Cond.code ({ cls := "java/lang/String", name := "valueOf", desc := "(C)Ljava/lang/String;" } : Jvm.MethodName) jdk_42_method_139_code (1 : Nat) (Option.some (Jvm.ClassFile.FieldType.object "java/lang/String")), Jvm.Cond.code ({ cls := "java/lang/StringLatin1", name := "canEncode", desc := "(C)Z" } : Jvm.MethodName) jdk_43_method_3_code (1 : Nat) (Option.some Jvm.ClassFile.FieldType.boolean), Jvm.Cond.code ({ cls := "java/lang/StringLatin1", name := "toBytes", desc := "(C)[B" } : Jvm.MethodName) jdk_43_method_46_code (1 : Nat) (Option.some (Jvm.ClassFile.FieldType.array Jvm.ClassFile.FieldType.byte)), Jvm.Cond.code ({ cls := "java/lang/String", name := "<init>", desc := "([BB)V" } : Jvm.MethodName) jdk_42_method_151_code (3 : Nat) (Option.none : Option Jvm.ClassFile.FieldType), Jvm.Cond.code ({ cls := "java/lang/String", name := "equals", desc := "(Ljava/lang/Object;)Z" } : Jvm.MethodName) jdk_42_method_66_code (3 : Nat) (Option.some Jvm.ClassFile.FieldType.boolean), Jvm.Cond.code ({ cls := "java/lang/StringLatin1", name := "equals", desc := "([B[B)Z" } : Jvm.MethodName) jdk_43_method_13_code (3 : Nat) (Option.some Jvm.ClassFile.FieldType.boolean), Jvm.Cond.code ({ cls := "java/lang/StringUTF16", name := "toBytes", desc := "([CII)[B" } : Jvm.MethodName) jdk_52_method_14_code (5 : Nat) (Option.some (Jvm.ClassFile.FieldType.array Jvm.ClassFile.FieldType.byte)), Jvm.Cond.code ({ cls := "java/lang/StringUTF16", name := "newBytesFor", desc := "(I)[B" } : Jvm.MethodName) jdk_52_method_2_code (1 : Nat) (Option.some (Jvm.ClassFile.FieldType.array Jvm.ClassFile.FieldType.byte)), Jvm.Cond.code ({ cls := "java/lang/StringUTF16", name := "newBytesLength", desc := "(I)I" } : Jvm.MethodName) jdk_52_method_3_code (1 : Nat) (Option.some Jvm.ClassFile.FieldType.int), Jvm.Cond.code ({ cls := "java/lang/StringUTF16", name := "putChar", desc := "([BII)V" } : Jvm.MethodName) jdk_52_method_4_code (3 : Nat) (Option.none : Option Jvm.ClassFile.FieldType), Jvm.Cond.code ({ cls := "java/lang/StringUTF16", name := "getChar", desc := "([BI)C" } : Jvm.MethodName) jdk_52_method_5_code (2 : Nat) (Option.some Jvm.ClassFile.FieldType.char), Jvm.Cond.code ({ cls := "java/lang/StringUTF16", name := "toBytes", desc := "(C)[B" } : Jvm.MethodName) jdk_52_method_24_code (2 : Nat) (Option.some (Jvm.ClassFile.FieldType.array Jvm.ClassFile.FieldType.byte))]
set_option maxRecDepth 65536 in
theorem codes_eq : words1.filter isCode = codes1 := rfl
theorem w_codes : ∀ c ∈ words1.filter isCode, c.before args0 about1 = true := by
  rw [codes_eq]
  intro c hc
  simp only [codes1, List.mem_cons, List.not_mem_nil, or_false] at hc
  rcases hc with rfl | rfl | rfl | rfl | rfl | rfl | rfl | rfl | rfl | rfl | rfl | rfl | rfl | rfl | rfl | rfl | rfl | rfl | rfl | rfl | rfl | rfl | rfl | rfl | rfl | rfl | rfl | rfl | rfl | rfl | rfl | rfl | rfl | rfl | rfl | rfl | rfl | rfl | rfl | rfl | rfl | rfl
  · exact w_c0
  · exact w_c1
  · exact w_c2
  · exact w_c3
  · exact w_c4
  · exact w_c5
  · exact w_c6
  · exact w_c7
  · exact w_c8
  · exact w_c9
  · exact w_c10
  · exact w_c11
  · exact w_c12
  · exact w_c13
  · exact w_c14
  · exact w_c15
  · exact w_c16
  · exact w_c17
  · exact w_c18
  · exact w_c19
  · exact w_c20
  · exact w_c21
  · exact w_c22
  · exact w_c23
  · exact w_c24
  · exact w_c25
  · exact w_c26
  · exact w_c27
  · exact w_c28
  · exact w_c29
  · exact w_c30
  · exact w_c31
  · exact w_c32
  · exact w_c33
  · exact w_c34
  · exact w_c35
  · exact w_c36
  · exact w_c37
  · exact w_c38
  · exact w_c39
  · exact w_c40
  · exact w_c41
set_option maxRecDepth 65536 in
theorem w_t1 : (words1.take 24).all (fun c => isCode c || c.before args0 about1) = true := by decide +kernel
set_option maxRecDepth 65536 in
theorem w_t2 : ((words1.drop 24).take 24).all (fun c => isCode c || c.before args0 about1) = true := by decide +kernel
set_option maxRecDepth 65536 in
theorem w_t3 : (((words1.drop 24).drop 24).take 24).all (fun c => isCode c || c.before args0 about1) = true := by decide +kernel
set_option maxRecDepth 65536 in
theorem w_t4 : ((((words1.drop 24).drop 24).drop 24).take 24).all (fun c => isCode c || c.before args0 about1) = true := by decide +kernel
set_option maxRecDepth 65536 in
theorem w_t5 : (((((words1.drop 24).drop 24).drop 24).drop 24).take 24).all (fun c => isCode c || c.before args0 about1) = true := by decide +kernel
set_option maxRecDepth 65536 in
theorem w_t6 : ((((((words1.drop 24).drop 24).drop 24).drop 24).drop 24).take 24).all (fun c => isCode c || c.before args0 about1) = true := by decide +kernel
set_option maxRecDepth 65536 in
theorem w_t7 : (((((((words1.drop 24).drop 24).drop 24).drop 24).drop 24).drop 24).take 24).all (fun c => isCode c || c.before args0 about1) = true := by decide +kernel
set_option maxRecDepth 65536 in
theorem w_t8 : ((((((((words1.drop 24).drop 24).drop 24).drop 24).drop 24).drop 24).drop 24).take 24).all (fun c => isCode c || c.before args0 about1) = true := by decide +kernel
set_option maxRecDepth 65536 in
theorem w_t9 : (((((((((words1.drop 24).drop 24).drop 24).drop 24).drop 24).drop 24).drop 24).drop 24).take 24).all (fun c => isCode c || c.before args0 about1) = true := by decide +kernel
set_option maxRecDepth 65536 in
theorem w_t10 : (((((((((words1.drop 24).drop 24).drop 24).drop 24).drop 24).drop 24).drop 24).drop 24).drop 24).all (fun c => isCode c || c.before args0 about1) = true := by decide +kernel
theorem w_tables : (allAtoms (Jvm.Cond.code x code maxLocals ret :: tables_1)).before args0 about1 = true := by
  rw [allAtoms_all]
  show words1.all (fun c => c.before args0 about1) = true
  refine all_split ?_ w_codes
  rw [← List.take_append_drop 24 words1, List.all_append, w_t1, ← List.take_append_drop 24 (words1.drop 24), List.all_append, w_t2, ← List.take_append_drop 24 ((words1.drop 24).drop 24), List.all_append, w_t3, ← List.take_append_drop 24 (((words1.drop 24).drop 24).drop 24), List.all_append, w_t4, ← List.take_append_drop 24 ((((words1.drop 24).drop 24).drop 24).drop 24), List.all_append, w_t5, ← List.take_append_drop 24 (((((words1.drop 24).drop 24).drop 24).drop 24).drop 24), List.all_append, w_t6, ← List.take_append_drop 24 ((((((words1.drop 24).drop 24).drop 24).drop 24).drop 24).drop 24), List.all_append, w_t7, ← List.take_append_drop 24 (((((((words1.drop 24).drop 24).drop 24).drop 24).drop 24).drop 24).drop 24), List.all_append, w_t8, ← List.take_append_drop 24 ((((((((words1.drop 24).drop 24).drop 24).drop 24).drop 24).drop 24).drop 24).drop 24), List.all_append, w_t9, w_t10]
  rfl
set_option maxRecDepth 65536 in
theorem w_rest : rest_1_c.before args0 about1 = true := by decide +kernel
set_option maxRecDepth 65536 in
theorem w_case : (Jvm.Cond.and given_1 narrow_1).before args0 about1 = true := by decide +kernel
theorem w_applies : (headSpec (Jvm.Cond.code x code maxLocals ret :: tables_1) room_1).applies x e0.platform about1 = true :=
  (Spec.applies_iff w_frames).mpr ⟨w_running, w_runnable, w_alone, w_named, w_hears, w_ripe, w_room, w_tables⟩
theorem atStart : AtStart classFile x code maxLocals ret World_1 tables_1 room_1 Calls_1 rest_1 Pre_1 launch0 p0 e0 about1 theMethod args0 below0 :=
  ⟨lists_1, trivial, launch0.admits_env _ _ _, launch0.least_env, fairChoices_fair.cas, fairChoices_fair.clock, w_frames, w_args, w_heap, w_applies, trivial, w_rest, w_case⟩
end start1
theorem witness_1 : WitnessClaimed_1 := ⟨start1.p0, start1.e0, start1.about1, start1.theMethod, start1.args0, start1.below0, start1.atStart⟩
end Jvm.Pilot.@@N@@
