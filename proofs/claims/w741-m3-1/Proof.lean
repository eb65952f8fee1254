import JvmDerived
import JvmDerived.Pilot.@@N@@Statement
import JvmDerived.Pilot.@@N@@Code
set_option linter.unusedVariables false
set_option linter.unusedSimpArgs false
namespace Jvm.RoadKit
open Sem ClassFile Op Lib Jvm.Stand Jvm.Free Jvm.LawKit
section New
variable {p : Program} {l : Launch} {e : Env} {R : Room} {s : State} {m : MethodId} {args : Array Value} {below : List Frame} {meth : Method} {c : Code} {T : State} {locs : List Loc} {cells slots : Nat}
theorem retI (X : Stand p l e R s m args below meth c T locs cells slots) (hx : p.tables.exec = Jvm.exec) {pc : Nat} {Ls : Array Slot} {z : Int32} {rest : List Value} (hret : meth.sig.returnType = some .int) (hd : decode c.code pc = .ok (.ireturn, 1)) {fs : List Frame}
    (hl : ∀ (f : JFrame) (acts : List Action), f.method = m → f.locked = none → f.entered = [] → (doReturn e (T.setTop f) acts (some (.int z))).1 = T.setFrames fs) : Steps p.tables e below (T.setTop (mkF m pc Ls (.int z :: rest))) (T.setFrames fs) := by
  have hm' : T.vm.method? m = some meth := X.method'
  have hn : narrow .int (.int z) = .int z := rfl
  show Steps p.tables e below (T.setTop { method := m, pc := pc, locals := Ls, stack := _ :: rest, locked := none }) _
  jvm_step X.here [X.here.top, hx, hd, hm', hret, hn]
  first | (intro acts; rw [hl _ acts rfl rfl rfl]) | rw [hl _ _ rfl rfl rfl]
  exact Steps.refl _
theorem retJ (X : Stand p l e R s m args below meth c T locs cells slots) (hx : p.tables.exec = Jvm.exec) {pc : Nat} {Ls : Array Slot} {z : Int64} {rest : List Value} (hret : meth.sig.returnType = some .long) (hd : decode c.code pc = .ok (.lreturn, 1)) {fs : List Frame}
    (hl : ∀ (f : JFrame) (acts : List Action), f.method = m → f.locked = none → f.entered = [] → (doReturn e (T.setTop f) acts (some (.long z))).1 = T.setFrames fs) : Steps p.tables e below (T.setTop (mkF m pc Ls (.long z :: rest))) (T.setFrames fs) := by
  have hm' : T.vm.method? m = some meth := X.method'
  have hn : narrow .long (.long z) = .long z := rfl
  show Steps p.tables e below (T.setTop { method := m, pc := pc, locals := Ls, stack := _ :: rest, locked := none }) _
  jvm_step X.here [X.here.top, hx, hd, hm', hret, hn]
  first | (intro acts; rw [hl _ acts rfl rfl rfl]) | rw [hl _ _ rfl rfl rfl]
  exact Steps.refl _
theorem retD (X : Stand p l e R s m args below meth c T locs cells slots) (hx : p.tables.exec = Jvm.exec) {pc : Nat} {Ls : Array Slot} {z : UInt64} {rest : List Value} (hret : meth.sig.returnType = some .double) (hd : decode c.code pc = .ok (.dreturn, 1)) {fs : List Frame}
    (hl : ∀ (f : JFrame) (acts : List Action), f.method = m → f.locked = none → f.entered = [] → (doReturn e (T.setTop f) acts (some (.double z))).1 = T.setFrames fs) : Steps p.tables e below (T.setTop (mkF m pc Ls (.double z :: rest))) (T.setFrames fs) := by
  have hm' : T.vm.method? m = some meth := X.method'
  have hn : narrow .double (.double z) = .double z := rfl
  show Steps p.tables e below (T.setTop { method := m, pc := pc, locals := Ls, stack := _ :: rest, locked := none }) _
  jvm_step X.here [X.here.top, hx, hd, hm', hret, hn]
  first | (intro acts; rw [hl _ acts rfl rfl rfl]) | rw [hl _ _ rfl rfl rfl]
  exact Steps.refl _
end New
end Jvm.RoadKit
namespace Jvm.Pilot.@@N@@
open Jvm Jvm.ClassFile Sem Op Lib Jvm.Free Jvm.Stand Jvm.LawKit Jvm.RoadKit Bundle Jvm.Pilot.@@N@@.Jvm.D
theorem own_selp {s : State} {args : Array Value} {y : MethodName} {n : Nat} (wi : (Jvm.Cond.instantiable y.cls n).before args s = true) (hp : s.PrivateAt y) (hinst : (Jvm.Cond.instanceMethod y).before args s = true) (hy : y.cls ≠ "java/lang/invoke/MethodHandle" ∧ y.cls ≠ "java/lang/invoke/VarHandle") : (Jvm.Cond.selects y.cls y y).before args s = true := by
  obtain ⟨c, k, h1, h2, h3, h4, -⟩ := Cond.instantiable_spec wi
  exact selects_self_of_private h1 h2 (Bool.or_eq_false_iff.mp h4).1 hp hinst hy
theorem own_words {Z : State} {a0 : Array Value} (hw : ∀ d ∈ tables_1, d.before a0 Z = true) : ∀ a ∈ Bundle.stringAtoms, a.before a0 Z = true := fun a ha => by
  simp only [Bundle.stringAtoms, List.mem_cons, List.not_mem_nil, or_false] at ha
  rcases ha with rfl | rfl | rfl | rfl | rfl | rfl | rfl
  · first | exact hw _ (List.mem_of_getElem? (i := 18) rfl) | exact hw _ (List.mem_of_getElem? (i := 19) rfl) | exact hw _ (List.mem_of_getElem? (i := 20) rfl) | exact hw _ (List.mem_of_getElem? (i := 21) rfl) | exact hw _ (List.mem_of_getElem? (i := 22) rfl) | exact hw _ (List.mem_of_getElem? (i := 23) rfl) | exact hw _ (List.mem_of_getElem? (i := 24) rfl)
  · first | exact hw _ (List.mem_of_getElem? (i := 18) rfl) | exact hw _ (List.mem_of_getElem? (i := 19) rfl) | exact hw _ (List.mem_of_getElem? (i := 20) rfl) | exact hw _ (List.mem_of_getElem? (i := 21) rfl) | exact hw _ (List.mem_of_getElem? (i := 22) rfl) | exact hw _ (List.mem_of_getElem? (i := 23) rfl) | exact hw _ (List.mem_of_getElem? (i := 24) rfl)
  · first | exact hw _ (List.mem_of_getElem? (i := 18) rfl) | exact hw _ (List.mem_of_getElem? (i := 19) rfl) | exact hw _ (List.mem_of_getElem? (i := 20) rfl) | exact hw _ (List.mem_of_getElem? (i := 21) rfl) | exact hw _ (List.mem_of_getElem? (i := 22) rfl) | exact hw _ (List.mem_of_getElem? (i := 23) rfl) | exact hw _ (List.mem_of_getElem? (i := 24) rfl)
  · first | exact hw _ (List.mem_of_getElem? (i := 18) rfl) | exact hw _ (List.mem_of_getElem? (i := 19) rfl) | exact hw _ (List.mem_of_getElem? (i := 20) rfl) | exact hw _ (List.mem_of_getElem? (i := 21) rfl) | exact hw _ (List.mem_of_getElem? (i := 22) rfl) | exact hw _ (List.mem_of_getElem? (i := 23) rfl) | exact hw _ (List.mem_of_getElem? (i := 24) rfl)
  · first | exact hw _ (List.mem_of_getElem? (i := 18) rfl) | exact hw _ (List.mem_of_getElem? (i := 19) rfl) | exact hw _ (List.mem_of_getElem? (i := 20) rfl) | exact hw _ (List.mem_of_getElem? (i := 21) rfl) | exact hw _ (List.mem_of_getElem? (i := 22) rfl) | exact hw _ (List.mem_of_getElem? (i := 23) rfl) | exact hw _ (List.mem_of_getElem? (i := 24) rfl)
  · first | exact hw _ (List.mem_of_getElem? (i := 18) rfl) | exact hw _ (List.mem_of_getElem? (i := 19) rfl) | exact hw _ (List.mem_of_getElem? (i := 20) rfl) | exact hw _ (List.mem_of_getElem? (i := 21) rfl) | exact hw _ (List.mem_of_getElem? (i := 22) rfl) | exact hw _ (List.mem_of_getElem? (i := 23) rfl) | exact hw _ (List.mem_of_getElem? (i := 24) rfl)
  · first | exact hw _ (List.mem_of_getElem? (i := 18) rfl) | exact hw _ (List.mem_of_getElem? (i := 19) rfl) | exact hw _ (List.mem_of_getElem? (i := 20) rfl) | exact hw _ (List.mem_of_getElem? (i := 21) rfl) | exact hw _ (List.mem_of_getElem? (i := 22) rfl) | exact hw _ (List.mem_of_getElem? (i := 23) rfl) | exact hw _ (List.mem_of_getElem? (i := 24) rfl)
open Jvm.Free.Fl in
theorem own_c1 : NoNaN64 (FP.ddiv (4655631299166339072 : UInt64) (4636737291354636288 : UInt64)) := by unfold NoNaN64; decide +kernel
abbrev own_100 : UInt64 := 4636737291354636288
abbrev own_36 : UInt64 := 4615288898129284301
abbrev own_3600 : UInt64 := 4660134898793709568
theorem own_one : FP.ddiv own_3600 own_3600 = FP.dconst1 := by decide +kernel
open Jvm.Free.Fl in
theorem own_n36 : NoNaN64 (FP.ddiv own_3600 own_3600) := by unfold NoNaN64; decide +kernel
open Jvm.Free.Fl in
theorem own_f36 : Fin64 own_36 := by unfold Fin64; decide +kernel
open Jvm.Free.Fl in
theorem own_z36 : Nz64 own_36 := (nz64_iff _).mpr (by decide +kernel)
open Jvm.Free.Fl in
theorem own_n100 : NoNaN64 own_100 := by unfold NoNaN64; decide +kernel
theorem own_d0 : FP.dconst0 = FP.l2d 0 := by decide +kernel
open Jvm.Free.Fl in
theorem own_div1 {x : UInt64} (h : NoNaN64 x) : FP.ddiv x (FP.ddiv own_3600 own_3600) = x := by
  rw [own_one]
  exact Jvm.FP.Core.ddiv_one (val64_no.mp h)
open Jvm.Free.Fl in
theorem own_nd1 {x : UInt64} (h : NoNaN64 x) : NoNaN64 (FP.ddiv x (FP.ddiv own_3600 own_3600)) := by rw [own_div1 h]; exact h
theorem own_b (c : Int32) : B53 c.toInt64 := by
  have h1 := Int32.toInt_lt c; have h2 := Int32.le_toInt c
  exact ⟨by rw [Int32.toInt_toInt64]; omega, by rw [Int32.toInt_toInt64]; omega⟩
theorem own_0d (c : Int32) : FP.dadd (0 : UInt64) (FP.i2d c) = FP.i2d c := by
  rw [i2d_w, ← l2d_zero, dadd_w ⟨by decide, by decide⟩ (own_b c)]
  rw [Int64.zero_add]
open Jvm.Free.Fl in
theorem own_ni (c : Int32) : NoNaN64 (FP.i2d c) := (i2d_fin c).noNaN
open Jvm.Free.Fl in
theorem own_na {x : UInt64} (h : NoNaN64 x) (c : Int32) : NoNaN64 (FP.dadd x (FP.i2d c)) := dadd_out h (i2d_fin c)
open Jvm.Free.Fl in
theorem own_nq {x : UInt64} (h : NoNaN64 x) {d : Int32} (hd : (0 : Int32) < d) : NoNaN64 (FP.ddiv x (FP.i2d d)) := ddiv_out h (i2d_fin d) (i2d_nz (fun q => by subst q; exact absurd hd (by decide)))
/-- a count is above nought just where its double is -/
theorem own_pos (d : Int32) : (0 : Int32) < cmpValue (FP.dcmp (FP.i2d d) FP.dconst0) .l ↔ (0 : Int32) < d := by
  rw [i2d_w, own_d0, dcmpV_w (own_b d) ⟨by decide, by decide⟩, lw_gt]
  rw [Int64.lt_iff_toInt_lt, Int32.lt_iff_toInt_lt, Int32.toInt_toInt64]; rfl
theorem own_zero : ¬ ((0 : Int32) < cmpValue (FP.dcmp FP.dconst0 FP.dconst0) .l) := by decide +kernel
/-- Entry's upstream density and the law's last one -/
theorem own_last (d1 d2 d3 : Int32) (la : UInt64) (h : la = (if (0 : Int32) < d3 then FP.i2d d3 else (if (0 : Int32) < d2 then FP.i2d d2 else (if (0 : Int32) < d1 then FP.i2d d1 else FP.dconst0)))) :
    (if (0 : Int32) < cmpValue (FP.dcmp (FP.i2d d3) FP.dconst0) .l then FP.i2d d3 else (if (0 : Int32) < cmpValue (FP.dcmp (FP.i2d d2) FP.dconst0) .l then FP.i2d d2 else (if (0 : Int32) < cmpValue (FP.dcmp (FP.i2d d1) FP.dconst0) .l then FP.i2d d1 else (0 : UInt64)))) = la := by
  have e0 : (0 : UInt64) = FP.dconst0 := by decide +kernel
  rw [h, e0]
  by_cases q3 : (0 : Int32) < d3
  · rw [if_pos ((own_pos d3).mpr q3), if_pos q3]
  · rw [if_neg (fun q => q3 ((own_pos d3).mp q)), if_neg q3]
    by_cases q2 : (0 : Int32) < d2
    · rw [if_pos ((own_pos d2).mpr q2), if_pos q2]
    · rw [if_neg (fun q => q2 ((own_pos d2).mp q)), if_neg q2]
      by_cases q1 : (0 : Int32) < d1
      · rw [if_pos ((own_pos d1).mpr q1), if_pos q1]
      · rw [if_neg (fun q => q1 ((own_pos d1).mp q)), if_neg q1]
theorem own_lpos (d1 d2 d3 : Int32) (la : UInt64) (h : la = (if (0 : Int32) < d3 then FP.i2d d3 else (if (0 : Int32) < d2 then FP.i2d d2 else (if (0 : Int32) < d1 then FP.i2d d1 else FP.dconst0)))) (hp : (0 : Int32) < cmpValue (FP.dcmp la FP.dconst0) .l) : ∃ d : Int32, (0 : Int32) < d ∧ la = FP.i2d d := by
  by_cases q3 : (0 : Int32) < d3
  · rw [if_pos q3] at h; exact ⟨d3, q3, h⟩
  · rw [if_neg q3] at h
    by_cases q2 : (0 : Int32) < d2
    · rw [if_pos q2] at h; exact ⟨d2, q2, h⟩
    · rw [if_neg q2] at h
      by_cases q1 : (0 : Int32) < d1
      · rw [if_pos q1] at h; exact ⟨d1, q1, h⟩
      · rw [if_neg q1] at h; subst h; exact absurd hp own_zero
/-- min's comparison and the law's own -/
theorem own_swap {q : UInt64} (h : Jvm.Free.Fl.NoNaN64 q) : (0 : Int32) < cmpValue (FP.dcmp own_100 q) .g ↔ cmpValue (FP.dcmp q own_100) .g < (0 : Int32) := by
  obtain ⟨o, ho⟩ := Jvm.Free.Fl.dcmp_of_noNaN h own_n100
  have e : FP.dcmp own_100 q = (FP.dcmp q own_100).map Ordering.swap := Jvm.FP.Core.dcmp_swap q own_100
  rw [e, ho]
  cases o <;> decide
def own_min (b : UInt64) : UInt64 := Jvm.Native.java_lang_Math.nans.pick64 false own_100 b
open Jvm.Free.Fl in
theorem own_nmin {b : UInt64} (h : NoNaN64 b) : NoNaN64 (own_min b) := by
  unfold own_min Jvm.Native.java_lang_Math.nans.pick64
  repeat' split
  all_goals first | exact h | exact own_n100
theorem own_min_gt {q : UInt64} (h : (0 : Int32) < cmpValue (FP.dcmp own_100 q) .g) : own_min q = q := by
  unfold own_min Jvm.Native.java_lang_Math.nans.pick64
  cases hd : FP.dcmp own_100 q with
  | none => exact if_pos (by decide +kernel)
  | some o =>
    rw [hd] at h
    cases o
    · exact absurd h (by decide)
    · exact absurd h (by decide)
    · rfl
open Jvm.Free.Fl in
theorem own_min_le {q : UInt64} (hn : NoNaN64 q) (h : ¬ (0 : Int32) < cmpValue (FP.dcmp own_100 q) .g) : own_min q = own_100 := by
  unfold own_min Jvm.Native.java_lang_Math.nans.pick64
  cases hd : FP.dcmp own_100 q with
  | none => rw [hd] at h; exact absurd (by decide) h
  | some o =>
    rw [hd] at h
    cases o
    · rfl
    · have k := (Jvm.FP.Core.dcmp_eq_key (val64_no.mp own_n100) (val64_no.mp hn)).mp hd
      have k1 : Jvm.FP.Core.dkey own_100 = 4636737291354636288 := by decide +kernel
      have e : q = own_100 := by
        apply UInt64.toNat_inj.mp
        rw [k1] at k
        unfold Jvm.FP.Core.dkey at k
        have k2 : own_100.toNat = 4636737291354636288 := by decide +kernel
        rw [k2]
        split at k <;> omega
      rw [e]; exact if_pos (by decide +kernel)
    · exact absurd (by decide) h
/-- the speed that entrySpeed divides by 3.6 -/
def own_sp (E U : UInt64) : UInt64 := if (0 : Int32) < cmpValue (FP.dcmp U FP.dconst0) .l then own_min (FP.ddiv E U) else own_100
open Jvm.Free.Fl in
theorem own_n3 {x : UInt64} (h : NoNaN64 x) : NoNaN64 (FP.ddiv x own_36) := ddiv_out h own_f36 own_z36
theorem own_end (E : UInt64) (h : Jvm.Free.Fl.NoNaN64 E) : True := trivial
theorem own_sum (c1 c2 c3 : Int32) : ∃ a : Int64, B53 a ∧ FP.dadd (FP.dadd (FP.i2d c1) (FP.i2d c2)) (FP.i2d c3) = FP.l2d a := by
  have h1 := Int32.toInt_lt c1; have h2 := Int32.le_toInt c1; have h3 := Int32.toInt_lt c2; have h4 := Int32.le_toInt c2; have h5 := Int32.toInt_lt c3; have h6 := Int32.le_toInt c3
  have s1 : (c1.toInt64 + c2.toInt64).toInt = c1.toInt + c2.toInt := by rw [add64 (own_b c1) (own_b c2), Int32.toInt_toInt64, Int32.toInt_toInt64]
  have b1 : B53 (c1.toInt64 + c2.toInt64) := ⟨by rw [s1]; omega, by rw [s1]; omega⟩
  have s2 : (c1.toInt64 + c2.toInt64 + c3.toInt64).toInt = c1.toInt + c2.toInt + c3.toInt := by rw [add64 b1 (own_b c3), s1, Int32.toInt_toInt64]
  exact ⟨c1.toInt64 + c2.toInt64 + c3.toInt64, ⟨by rw [s2]; omega, by rw [s2]; omega⟩, by rw [i2d_w, i2d_w, i2d_w, dadd_w (own_b c1) (own_b c2), dadd_w b1 (own_b c3)]⟩
/-- 0.0 + e - 0 is e -/
theorem own_rem {E : UInt64} {a : Int64} (hb : B53 a) (h : E = FP.l2d a) : FP.dsub (FP.dadd (0 : UInt64) E) (FP.i2d (0 : Int32)) = E := by
  have z : B53 (0 : Int64) := ⟨by decide, by decide⟩
  rw [h, i2d_w, ← l2d_zero, dadd_w z hb, Int64.zero_add, show (0 : Int32).toInt64 = 0 from rfl, dsub_w hb z, Int64.sub_zero]

theorem d2_0 : decode jdk_30_method_1_code 0 = .ok (.aload_n 0, 1) := by decide +kernel
theorem d2_1 : decode jdk_30_method_1_code 1 = .ok (.invokespecial 1, 3) := by decide +kernel
theorem d2_4 : decode jdk_30_method_1_code 4 = .ok (.return_, 1) := by decide +kernel
theorem pn_2 : plainName "java/lang/Record" = true := by first | (simp [plainName, overriddenIn]; done) | decide +kernel
theorem ef_2_x (m : MethodId) (x0 : Addr) : entryFrame m #[(.ref x0)] 1 = mkF m 0 #[.val (.ref x0)] [] := by first | (simp [entryFrame, mkF, argsToLocals, Value.category]; done) | rfl
def Q2 (Z : State) (a1 : Addr) (h0 : Heap) (n0 : Nat) (v : Option Value) (h : Heap) (L : List Loc) : Prop := v = none ∧ Fr n0 L ∧ h = h0
set_option maxRecDepth 65536 in
set_option maxHeartbeats 40000000 in
theorem rm2 (l : Launch) (Z : State) (a0 : Array Value) (hw : ∀ d ∈ tables_1, d.before a0 Z = true) (ws : List Jvm.Cond) (a1 : Addr) (h0 : Heap) (n0 : Nat) (Z0 : n0 ≤ h0.size) :
    MetFree l (⟨"java/lang/Record", "<init>", "()V"⟩ : MethodName) (head1 (Jvm.Cond.code (⟨"java/lang/Record", "<init>", "()V"⟩ : MethodName) jdk_30_method_1_code 1 none :: ws) ({ frames := 1, cells := 0, slots := 0, locals := 12 } : Room)) (fun a U => a = #[(.ref a1)] ∧ Z.Warmed39 U.vm ∧ U.heap = h0) (fun _ _ _ _ _ => True) (fun _ U o U' => ∃ v L, o = .returned v ∧ Q2 Z a1 h0 n0 v U'.heap L ∧ FrameEnd U o U' L ({ frames := 1, cells := 0, slots := 0, locals := 12 } : Room).cells ({ frames := 1, cells := 0, slots := 0, locals := 12 } : Room).slots) := by
  refine MetFree.of_bodySF (plainFor_of_name pn_2) hisR ?_
  intro p e s m args below meth c s₁ Bd hml0 hP hK
  obtain ⟨rfl, hZ, hh⟩ := hP
  have hx := Bd.exec
  have hby := Bd.bytes
  have hml : c.maxLocals = 1 := hml0
  have hown : s.vm.findClass "java/lang/Record" = some m.cls := findClass_of_methodNamed Bd.named
  have hnm := (name_of_methodNamed Bd.named Bd.method).1
  have X0 : Stand p l e ({ frames := 1, cells := 0, slots := 0, locals := 12 } : Room) s m #[(.ref a1)] below meth c s₁ [] 0 0 := Stand.of_body Bd
  have e0 : s₁.heap = h0 := by rw [← hh, Bd.state]; rfl
  have N0 := Fr.nil n0
  have pre0 : ∀ t, Steps p.tables e below (s₁.setTop (mkF m 0 #[.val (.ref a1)] [])) t → Steps p.tables e below (s₁.setTop (entryFrame m #[(.ref a1)] 1)) t := fun t k => castTop (ef_2_x m a1) k
  have J1 : ∀ t, Steps p.tables e below (s₁.setTop (mkF m 1 #[.val (.ref a1)] [(.ref a1)])) t → Steps p.tables e below (s₁.setTop (entryFrame m #[(.ref a1)] 1)) t := fun t k => pre0 t (by
      show Steps p.tables e below (s₁.setTop (mkF m 0 #[.val (.ref a1)] [])) _
      refine XS.aloadN X0.here hx rfl (hb hby d2_0) rfl rfl ?_
      exact k)
  obtain ⟨T2, X2, e2, st2⟩ := initO X0 hx hZ hown (hw _ (List.mem_of_getElem? (i := 14) rfl)) (hw _ (List.mem_of_getElem? (i := 15) rfl)) (hw _ (List.mem_of_getElem? (i := 16) rfl)) e0 (g := (mkF m 1 #[.val (.ref a1)] [(.ref a1)])) rfl (by rw [hml]; rfl) rfl (hb hby d2_1) (by decide) (W := 0) (by show 2 * 0 + _ ≤ _; exact Nat.le_of_eq rfl) (by decide)
  have J3 : ∀ t, Steps p.tables e below (T2.setTop (mkF m 4 #[.val (.ref a1)] [])) t → Steps p.tables e below (s₁.setTop (entryFrame m #[(.ref a1)] 1)) t := fun t k => J1 t (st2 t k)
  obtain ⟨fs, hr, hrun, hended, hW, hsame⟩ := X2.leave (v := none) (fun _ => rfl)
  refine ⟨_, _, J3 _ ?_, hrun, hended, _, _, rfl, ?_, ⟨_, rfl⟩, hW, hsame.mono (by decide) (by decide)⟩
  · show Steps p.tables e below (T2.setTop (mkF m 4 #[.val (.ref a1)] [])) _
    exact X2.returnOut hx Bd.returns (hb hby d2_4) hr
  · show Q2 Z a1 h0 n0 _ T2.heap _
    rw [e2]
    exact ⟨rfl, N0, rfl⟩
theorem d4_0 : decode prog_30_method_9_code 0 = .ok (.dload_n 1, 1) := by decide +kernel
theorem d4_1 : decode prog_30_method_9_code 1 = .ok (.dconst 0, 1) := by decide +kernel
theorem d4_2 : decode prog_30_method_9_code 2 = .ok (.dcmp .l, 1) := by decide +kernel
theorem d4_3 : decode prog_30_method_9_code 3 = .ok (.ifCond .le 11, 3) := by decide +kernel
theorem d4_6 : decode prog_30_method_9_code 6 = .ok (.dload_n 1, 1) := by decide +kernel
theorem d4_7 : decode prog_30_method_9_code 7 = .ok (.ldc2_w 81, 3) := by decide +kernel
theorem d4_10 : decode prog_30_method_9_code 10 = .ok (.dcmp .g, 1) := by decide +kernel
theorem d4_11 : decode prog_30_method_9_code 11 = .ok (.ifCond .lt 35, 3) := by decide +kernel
theorem d4_46 : decode prog_30_method_9_code 46 = .ok (.return_, 1) := by decide +kernel
theorem pn_4 : plainName "com/example/graded_flow/gradedflow/network/TriangularDiagram" = true := by first | (simp [plainName, overriddenIn]; done) | decide +kernel
theorem ef_4_xxx (m : MethodId) (x0 : Addr) (x1 : UInt64) (x2 : Addr) : entryFrame m #[(.ref x0), (.double x1), (.ref x2)] 4 = mkF m 0 #[.val (.ref x0), .val (.double x1), .second, .val (.ref x2)] [] := by first | (simp [entryFrame, mkF, argsToLocals, Value.category]; done) | rfl
def Q4 (Z : State) (a1 : Addr) (d2 : UInt64) (a3 : Addr) (h0 : Heap) (n0 : Nat) (v : Option Value) (h : Heap) (L : List Loc) : Prop := v = none ∧ Fr n0 L ∧ h = h0
set_option maxRecDepth 65536 in
set_option maxHeartbeats 40000000 in
theorem rm4 (l : Launch) (Z : State) (a0 : Array Value) (hw : ∀ d ∈ tables_1, d.before a0 Z = true) (ws : List Jvm.Cond) (a1 : Addr) (d2 : UInt64) (a3 : Addr) (h0 : Heap) (n0 : Nat) (Z0 : n0 ≤ h0.size) (h1 : (0 : Int32) < cmpValue (FP.dcmp d2 FP.dconst0) .l) (h2 : cmpValue (FP.dcmp d2 (9218868437227405312 : UInt64)) .g < (0 : Int32)) :
    MetFree l (⟨"com/example/graded_flow/gradedflow/network/TriangularDiagram", "requirePositive", "(Ljava/lang/String;DLjava/lang/String;)V"⟩ : MethodName) (head1 (Jvm.Cond.code (⟨"com/example/graded_flow/gradedflow/network/TriangularDiagram", "requirePositive", "(Ljava/lang/String;DLjava/lang/String;)V"⟩ : MethodName) prog_30_method_9_code 4 none :: ws) ({ frames := 0, cells := 0, slots := 0, locals := 0 } : Room)) (fun a U => a = #[(.ref a1), (.double d2), (.ref a3)] ∧ Z.Warmed39 U.vm ∧ U.heap = h0) (fun _ _ _ _ _ => True) (fun _ U o U' => ∃ v L, o = .returned v ∧ Q4 Z a1 d2 a3 h0 n0 v U'.heap L ∧ FrameEnd U o U' L ({ frames := 0, cells := 0, slots := 0, locals := 0 } : Room).cells ({ frames := 0, cells := 0, slots := 0, locals := 0 } : Room).slots) := by
  refine MetFree.of_bodySF (plainFor_of_name pn_4) hisR ?_
  intro p e s m args below meth c s₁ Bd hml0 hP hK
  obtain ⟨rfl, hZ, hh⟩ := hP
  have hx := Bd.exec
  have hby := Bd.bytes
  have hml : c.maxLocals = 4 := hml0
  have hown : s.vm.findClass "com/example/graded_flow/gradedflow/network/TriangularDiagram" = some m.cls := findClass_of_methodNamed Bd.named
  have hnm := (name_of_methodNamed Bd.named Bd.method).1
  have X0 : Stand p l e ({ frames := 0, cells := 0, slots := 0, locals := 0 } : Room) s m #[(.ref a1), (.double d2), (.ref a3)] below meth c s₁ [] 0 0 := Stand.of_body Bd
  have e0 : s₁.heap = h0 := by rw [← hh, Bd.state]; rfl
  have N0 := Fr.nil n0
  have pre0 : ∀ t, Steps p.tables e below (s₁.setTop (mkF m 0 #[.val (.ref a1), .val (.double d2), .second, .val (.ref a3)] [])) t → Steps p.tables e below (s₁.setTop (entryFrame m #[(.ref a1), (.double d2), (.ref a3)] 4)) t := fun t k => castTop (ef_4_xxx m a1 d2 a3) k
  have J1 : ∀ t, Steps p.tables e below (s₁.setTop (mkF m 46 #[.val (.ref a1), .val (.double d2), .second, .val (.ref a3)] [])) t → Steps p.tables e below (s₁.setTop (entryFrame m #[(.ref a1), (.double d2), (.ref a3)] 4)) t := fun t k => pre0 t (by
      show Steps p.tables e below (s₁.setTop (mkF m 0 #[.val (.ref a1), .val (.double d2), .second, .val (.ref a3)] [])) _
      refine XS.dloadN X0.here hx rfl (hb hby d4_0) rfl ?_
      show Steps p.tables e below (s₁.setTop (mkF m 1 #[.val (.ref a1), .val (.double d2), .second, .val (.ref a3)] [(.double d2)])) _
      refine XS.dconst0 X0.here hx rfl (hb hby d4_1) rfl ?_
      show Steps p.tables e below (s₁.setTop (mkF m 2 #[.val (.ref a1), .val (.double d2), .second, .val (.ref a3)] [(.double FP.dconst0), (.double d2)])) _
      refine XS.dcmpS X0.here hx rfl (hb hby d4_2) rfl rfl ?_
      show Steps p.tables e below (s₁.setTop (mkF m 3 #[.val (.ref a1), .val (.double d2), .second, .val (.ref a3)] [(.int (cmpValue (FP.dcmp d2 FP.dconst0) .l))])) _
      refine XS.ifNo X0.here hx rfl (hb hby d4_3) rfl ((if0 _ _).trans (tlt h1).2.2.2) ?_
      show Steps p.tables e below (s₁.setTop (mkF m 6 #[.val (.ref a1), .val (.double d2), .second, .val (.ref a3)] [])) _
      refine XS.dloadN X0.here hx rfl (hb hby d4_6) rfl ?_
      show Steps p.tables e below (s₁.setTop (mkF m 7 #[.val (.ref a1), .val (.double d2), .second, .val (.ref a3)] [(.double d2)])) _
      refine X0.ldc2DoubleC hx hown (mvT hZ (hw _ (List.mem_of_getElem? (i := 29) rfl))) (g := (mkF m 7 #[.val (.ref a1), .val (.double d2), .second, .val (.ref a3)] [(.double d2)])) rfl (hb hby d4_7) _ ?_
      show Steps p.tables e below (s₁.setTop (mkF m 10 #[.val (.ref a1), .val (.double d2), .second, .val (.ref a3)] [(.double (9218868437227405312 : UInt64)), (.double d2)])) _
      refine XS.dcmpS X0.here hx rfl (hb hby d4_10) rfl rfl ?_
      show Steps p.tables e below (s₁.setTop (mkF m 11 #[.val (.ref a1), .val (.double d2), .second, .val (.ref a3)] [(.int (cmpValue (FP.dcmp d2 (9218868437227405312 : UInt64)) .g))])) _
      refine XS.ifYes X0.here hx rfl (pc0 := 11) (pc' := 46) rfl (hb hby d4_11) rfl ((if0 _ _).trans (tlt h2).1) (by decide) (by decide) ?_
      exact k)
  obtain ⟨fs, hr, hrun, hended, hW, hsame⟩ := X0.leave (v := none) (fun _ => rfl)
  refine ⟨_, _, J1 _ ?_, hrun, hended, _, _, rfl, ?_, ⟨_, rfl⟩, hW, hsame.mono (by decide) (by decide)⟩
  · show Steps p.tables e below (s₁.setTop (mkF m 46 #[.val (.ref a1), .val (.double d2), .second, .val (.ref a3)] [])) _
    exact X0.returnOut hx Bd.returns (hb hby d4_46) hr
  · show Q4 Z a1 d2 a3 h0 n0 _ s₁.heap _
    rw [e0]
    exact ⟨rfl, N0, rfl⟩
theorem d1_0 : decode prog_30_method_1_code 0 = .ok (.aload_n 0, 1) := by decide +kernel
theorem d1_1 : decode prog_30_method_1_code 1 = .ok (.invokespecial 1, 3) := by decide +kernel
theorem pd_0 : parseMethodDescriptor "()V" = some ⟨[], none⟩ := by decide +kernel
theorem d1_4 : decode prog_30_method_1_code 4 = .ok (.ldc 7, 2) := by decide +kernel
theorem d1_6 : decode prog_30_method_1_code 6 = .ok (.dload_n 1, 1) := by decide +kernel
theorem d1_7 : decode prog_30_method_1_code 7 = .ok (.ldc 9, 2) := by decide +kernel
theorem d1_9 : decode prog_30_method_1_code 9 = .ok (.invokestatic 11, 3) := by decide +kernel
theorem pd_1 : parseMethodDescriptor "(Ljava/lang/String;DLjava/lang/String;)V" = some ⟨[(.object "java/lang/String"), .double, (.object "java/lang/String")], none⟩ := by decide +kernel
theorem d1_12 : decode prog_30_method_1_code 12 = .ok (.ldc 17, 2) := by decide +kernel
theorem d1_14 : decode prog_30_method_1_code 14 = .ok (.dload_n 3, 1) := by decide +kernel
theorem d1_15 : decode prog_30_method_1_code 15 = .ok (.ldc 19, 2) := by decide +kernel
theorem d1_17 : decode prog_30_method_1_code 17 = .ok (.invokestatic 11, 3) := by decide +kernel
theorem d1_20 : decode prog_30_method_1_code 20 = .ok (.ldc 21, 2) := by decide +kernel
theorem d1_22 : decode prog_30_method_1_code 22 = .ok (.dload 5, 2) := by decide +kernel
theorem d1_24 : decode prog_30_method_1_code 24 = .ok (.ldc 23, 2) := by decide +kernel
theorem d1_26 : decode prog_30_method_1_code 26 = .ok (.invokestatic 11, 3) := by decide +kernel
theorem d1_29 : decode prog_30_method_1_code 29 = .ok (.dload_n 1, 1) := by decide +kernel
theorem d1_30 : decode prog_30_method_1_code 30 = .ok (.dload_n 3, 1) := by decide +kernel
theorem d1_31 : decode prog_30_method_1_code 31 = .ok (.ddiv, 1) := by decide +kernel
theorem d1_32 : decode prog_30_method_1_code 32 = .ok (.dload 5, 2) := by decide +kernel
theorem d1_34 : decode prog_30_method_1_code 34 = .ok (.dcmp .l, 1) := by decide +kernel
theorem d1_35 : decode prog_30_method_1_code 35 = .ok (.ifCond .lt 51, 3) := by decide +kernel
theorem d1_86 : decode prog_30_method_1_code 86 = .ok (.aload_n 0, 1) := by decide +kernel
theorem d1_87 : decode prog_30_method_1_code 87 = .ok (.dload_n 1, 1) := by decide +kernel
theorem d1_88 : decode prog_30_method_1_code 88 = .ok (.putfield 46, 3) := by decide +kernel
theorem d1_91 : decode prog_30_method_1_code 91 = .ok (.aload_n 0, 1) := by decide +kernel
theorem d1_92 : decode prog_30_method_1_code 92 = .ok (.dload_n 3, 1) := by decide +kernel
theorem d1_93 : decode prog_30_method_1_code 93 = .ok (.putfield 49, 3) := by decide +kernel
theorem d1_96 : decode prog_30_method_1_code 96 = .ok (.aload_n 0, 1) := by decide +kernel
theorem d1_97 : decode prog_30_method_1_code 97 = .ok (.dload 5, 2) := by decide +kernel
theorem d1_99 : decode prog_30_method_1_code 99 = .ok (.putfield 52, 3) := by decide +kernel
theorem d1_102 : decode prog_30_method_1_code 102 = .ok (.return_, 1) := by decide +kernel
theorem pn_1 : plainName "com/example/graded_flow/gradedflow/network/TriangularDiagram" = true := by first | (simp [plainName, overriddenIn]; done) | decide +kernel
theorem ef_1_xxxx (m : MethodId) (x0 : Addr) (x1 : UInt64) (x2 : UInt64) (x3 : UInt64) : entryFrame m #[(.ref x0), (.double x1), (.double x2), (.double x3)] 7 = mkF m 0 #[.val (.ref x0), .val (.double x1), .second, .val (.double x2), .second, .val (.double x3), .second] [] := by first | (simp [entryFrame, mkF, argsToLocals, Value.category]; done) | rfl
def Q1 (Z : State) (a1 : Addr) (u1 : Value) (u2 : Value) (u3 : Value) (h0 : Heap) (n0 : Nat) (v : Option Value) (h : Heap) (L : List Loc) : Prop := v = none ∧ Fr n0 L ∧ Keep h0 h [a1] ∧ (Exa Z h a1 "com/example/graded_flow/gradedflow/network/TriangularDiagram") ∧ (Fld Z h a1 "com/example/graded_flow/gradedflow/network/TriangularDiagram" "capacity" "D" (.double (4655631299166339072 : UInt64))) ∧ (Fld Z h a1 "com/example/graded_flow/gradedflow/network/TriangularDiagram" "freeSpeed" "D" (.double (4636737291354636288 : UInt64))) ∧ (Fld Z h a1 "com/example/graded_flow/gradedflow/network/TriangularDiagram" "jamDensity" "D" (.double (4639481672377565184 : UInt64)))
set_option maxRecDepth 65536 in
set_option maxHeartbeats 40000000 in
theorem rm1 (l : Launch) (Z : State) (a0 : Array Value) (hw : ∀ d ∈ tables_1, d.before a0 Z = true) (ws : List Jvm.Cond) (a1 : Addr) (u1 : Value) (u2 : Value) (u3 : Value) (h0 : Heap) (n0 : Nat) (Z0 : n0 ≤ h0.size) (E_a1 : Exa Z h0 a1 "com/example/graded_flow/gradedflow/network/TriangularDiagram") (g_a1 : n0 ≤ a1) (F_capacity_a1 : Fld Z h0 a1 "com/example/graded_flow/gradedflow/network/TriangularDiagram" "capacity" "D" u1) (F_freeSpeed_a1 : Fld Z h0 a1 "com/example/graded_flow/gradedflow/network/TriangularDiagram" "freeSpeed" "D" u2) (F_jamDensity_a1 : Fld Z h0 a1 "com/example/graded_flow/gradedflow/network/TriangularDiagram" "jamDensity" "D" u3) :
    MetFree l (⟨"com/example/graded_flow/gradedflow/network/TriangularDiagram", "<init>", "(DDD)V"⟩ : MethodName) (head1 (Jvm.Cond.code (⟨"com/example/graded_flow/gradedflow/network/TriangularDiagram", "<init>", "(DDD)V"⟩ : MethodName) prog_30_method_1_code 7 none :: ws) ({ frames := 2, cells := 12, slots := 240, locals := 24 } : Room)) (fun a U => a = #[(.ref a1), (.double (4655631299166339072 : UInt64)), (.double (4636737291354636288 : UInt64)), (.double (4639481672377565184 : UInt64))] ∧ Z.Warmed39 U.vm ∧ U.heap = h0) (fun _ _ _ _ _ => True) (fun _ U o U' => ∃ v L, o = .returned v ∧ Q1 Z a1 u1 u2 u3 h0 n0 v U'.heap L ∧ ReturnedEndW U o U' L ({ frames := 2, cells := 12, slots := 240, locals := 24 } : Room).cells ({ frames := 2, cells := 12, slots := 240, locals := 24 } : Room).slots) := by
  refine MetFree.of_bodySF (plainFor_of_name pn_1) hisR ?_
  intro p e s m args below meth c s₁ Bd hml0 hP hK
  obtain ⟨rfl, hZ, hh⟩ := hP
  have hx := Bd.exec
  have hby := Bd.bytes
  have hml : c.maxLocals = 7 := hml0
  have hown : s.vm.findClass "com/example/graded_flow/gradedflow/network/TriangularDiagram" = some m.cls := findClass_of_methodNamed Bd.named
  have hnm := (name_of_methodNamed Bd.named Bd.method).1
  have own_wS : ∀ a ∈ Bundle.stringAtoms, a.before a0 Z = true := own_words hw
  have hSi : s.Since s.vm h0.size := (State.WarmedH.refl s).since _
  have kz : h0.size ≤ h0.size := Nat.le_refl _
  have hZ : Z.Warmed39 (s.setVm s.vm).vm := hZ
  have hown : (s.setVm s.vm).vm.findClass "com/example/graded_flow/gradedflow/network/TriangularDiagram" = some m.cls := hown
  have X0 : Stand p l e ({ frames := 2, cells := 12, slots := 240, locals := 24 } : Room) (s.setVm s.vm) m #[(.ref a1), (.double (4655631299166339072 : UInt64)), (.double (4636737291354636288 : UInt64)), (.double (4639481672377565184 : UInt64))] below meth c s₁ [] 0 0 := Stand.of_body Bd
  have e0 : s₁.heap = h0 := by rw [← hh, Bd.state]; rfl
  have N0 := Fr.nil n0
  have pre0 : ∀ t, Steps p.tables e below (s₁.setTop (mkF m 0 #[.val (.ref a1), .val (.double (4655631299166339072 : UInt64)), .second, .val (.double (4636737291354636288 : UInt64)), .second, .val (.double (4639481672377565184 : UInt64)), .second] [])) t → Steps p.tables e below (s₁.setTop (entryFrame m #[(.ref a1), (.double (4655631299166339072 : UInt64)), (.double (4636737291354636288 : UInt64)), (.double (4639481672377565184 : UInt64))] 7)) t := fun t k => castTop (ef_1_xxxx m a1 (4655631299166339072 : UInt64) (4636737291354636288 : UInt64) (4639481672377565184 : UInt64)) k
  have J1 : ∀ t, Steps p.tables e below (s₁.setTop (mkF m 1 #[.val (.ref a1), .val (.double (4655631299166339072 : UInt64)), .second, .val (.double (4636737291354636288 : UInt64)), .second, .val (.double (4639481672377565184 : UInt64)), .second] [(.ref a1)])) t → Steps p.tables e below (s₁.setTop (entryFrame m #[(.ref a1), (.double (4655631299166339072 : UInt64)), (.double (4636737291354636288 : UInt64)), (.double (4639481672377565184 : UInt64))] 7)) t := fun t k => pre0 t (by
      show Steps p.tables e below (s₁.setTop (mkF m 0 #[.val (.ref a1), .val (.double (4655631299166339072 : UInt64)), .second, .val (.double (4636737291354636288 : UInt64)), .second, .val (.double (4639481672377565184 : UInt64)), .second] [])) _
      refine XS.aloadN X0.here hx rfl (hb hby d1_0) rfl rfl ?_
      exact k)
  obtain ⟨_, _, ⟨T2, L2, k2, n2⟩, -, X2, ⟨Lc2, hQ2, l2, y2, z2⟩, st2⟩ := X0.specialBack hx (y := (⟨"java/lang/Record", "<init>", "()V"⟩ : MethodName)) rfl hown (mvT hZ (hw _ (List.mem_of_getElem? (i := 9) rfl))) (mvT hZ (hw _ (List.mem_of_getElem? (i := 10) rfl))) (mvT hZ (hw _ (List.mem_of_getElem? (i := 13) rfl))) (by decide) (backOf (W := 0) (rm2 l Z a0 hw [] a1 h0 n0 Z0 ) hZ (hw _ (List.mem_of_getElem? (i := 13) rfl)) (hw _ (List.mem_of_getElem? (i := 12) rfl)) (by decide) (by decide)) (g := (mkF m 1 #[.val (.ref a1), .val (.double (4655631299166339072 : UInt64)), .second, .val (.double (4636737291354636288 : UInt64)), .second, .val (.double (4639481672377565184 : UInt64)), .second] [(.ref a1)])) rfl (by rw [hml]; rfl) (Steps.refl _) (a := a1) (argsL := []) (rest := []) (lenOf pd_0 rfl) rfl (by show 2 * 0 + _ ≤ _; exact Nat.le_of_eq rfl) (hb hby d1_1) (fun _ _ => ⟨rfl, e0, (by decide : 0 + 0 ≤ _), (by decide : 0 + 0 ≤ _)⟩)
  dsimp only [Pt.U, Pt.locs, Pt.cells, Pt.slots] at X2 l2 y2 z2 st2 hQ2
  subst l2 y2 z2
  obtain ⟨rfl, Nq2, e2⟩ := hQ2
  have N3 := Fr.app N0 Nq2
  have J4 : ∀ t, Steps p.tables e below (T2.setTop (mkF m 4 #[.val (.ref a1), .val (.double (4655631299166339072 : UInt64)), .second, .val (.double (4636737291354636288 : UInt64)), .second, .val (.double (4639481672377565184 : UInt64)), .second] [])) t → Steps p.tables e below (s₁.setTop (entryFrame m #[(.ref a1), (.double (4655631299166339072 : UInt64)), (.double (4636737291354636288 : UInt64)), (.double (4639481672377565184 : UInt64))] 7)) t := fun t k => J1 t (st2.trans k)
  obtain ⟨b5, T5, h5, k5, X5, e5, E5, hSi, kz, hZ, hown, st5⟩ := ldcS X2 hx hZ hown (hw _ (List.mem_of_getElem? (i := 17) rfl)) own_wS e2 hSi kz (g := (mkF m 4 #[.val (.ref a1), .val (.double (4655631299166339072 : UInt64)), .second, .val (.double (4636737291354636288 : UInt64)), .second, .val (.double (4639481672377565184 : UInt64)), .second] [])) rfl (hb hby d1_4) (n := 32) (by decide) (by decide) (by decide) (by decide)
  have J6 : ∀ t, Steps p.tables e below (T5.setTop (mkF m 6 #[.val (.ref a1), .val (.double (4655631299166339072 : UInt64)), .second, .val (.double (4636737291354636288 : UInt64)), .second, .val (.double (4639481672377565184 : UInt64)), .second] [(.ref b5)])) t → Steps p.tables e below (s₁.setTop (entryFrame m #[(.ref a1), (.double (4655631299166339072 : UInt64)), (.double (4636737291354636288 : UInt64)), (.double (4639481672377565184 : UInt64))] 7)) t := fun t k => J4 t (st5 t k)
  have Z7 : n0 ≤ h5.size := Nat.le_trans Z0 E5.1
  have KK8 : Keep h0 h5 [a1] := (Keep.refl h0 [a1]).ext E5
  have J9 : ∀ t, Steps p.tables e below (T5.setTop (mkF m 7 #[.val (.ref a1), .val (.double (4655631299166339072 : UInt64)), .second, .val (.double (4636737291354636288 : UInt64)), .second, .val (.double (4639481672377565184 : UInt64)), .second] [(.double (4655631299166339072 : UInt64)), (.ref b5)])) t → Steps p.tables e below (s₁.setTop (entryFrame m #[(.ref a1), (.double (4655631299166339072 : UInt64)), (.double (4636737291354636288 : UInt64)), (.double (4639481672377565184 : UInt64))] 7)) t := fun t k => J6 t (by
      show Steps p.tables e below (T5.setTop (mkF m 6 #[.val (.ref a1), .val (.double (4655631299166339072 : UInt64)), .second, .val (.double (4636737291354636288 : UInt64)), .second, .val (.double (4639481672377565184 : UInt64)), .second] [(.ref b5)])) _
      refine XS.dloadN X5.here hx rfl (hb hby d1_6) rfl ?_
      exact k)
  have f10 := E_a1.ext E5
  obtain ⟨b11, T11, h11, k11, X11, e11, E11, hSi, kz, hZ, hown, st11⟩ := ldcS X5 hx hZ hown (hw _ (List.mem_of_getElem? (i := 25) rfl)) own_wS e5 hSi kz (g := (mkF m 7 #[.val (.ref a1), .val (.double (4655631299166339072 : UInt64)), .second, .val (.double (4636737291354636288 : UInt64)), .second, .val (.double (4639481672377565184 : UInt64)), .second] [(.double (4655631299166339072 : UInt64)), (.ref b5)])) rfl (hb hby d1_7) (n := 40) (by decide) (by decide) (by decide) (by decide)
  have J12 : ∀ t, Steps p.tables e below (T11.setTop (mkF m 9 #[.val (.ref a1), .val (.double (4655631299166339072 : UInt64)), .second, .val (.double (4636737291354636288 : UInt64)), .second, .val (.double (4639481672377565184 : UInt64)), .second] [(.ref b11), (.double (4655631299166339072 : UInt64)), (.ref b5)])) t → Steps p.tables e below (s₁.setTop (entryFrame m #[(.ref a1), (.double (4655631299166339072 : UInt64)), (.double (4636737291354636288 : UInt64)), (.double (4639481672377565184 : UInt64))] 7)) t := fun t k => J9 t (st11 t k)
  have Z13 : n0 ≤ h11.size := Nat.le_trans Z7 E11.1
  have KK14 : Keep h0 h11 [a1] := KK8.ext E11
  obtain ⟨_, _, ⟨T15, L15, k15, n15⟩, -, X15, ⟨Lc15, hQ15, l15, y15, z15⟩, st15⟩ := Jvm.LawKit.callS X11 hx (y := (⟨"com/example/graded_flow/gradedflow/network/TriangularDiagram", "requirePositive", "(Ljava/lang/String;DLjava/lang/String;)V"⟩ : MethodName)) hown (mvT hZ (hw _ (List.mem_of_getElem? (i := 26) rfl))) (mvT hZ (hw _ (List.mem_of_getElem? (i := 27) rfl))) (mvT hZ (hw _ (List.mem_of_getElem? (i := 2) rfl))) (mvT hZ (hw _ (List.mem_of_getElem? (i := 28) rfl))) (by decide) (backOf (W := 0) (rm4 l Z a0 hw [] b5 (4655631299166339072 : UInt64) b11 h11 n0 Z13 (by decide +kernel) (by decide +kernel)) hZ (hw _ (List.mem_of_getElem? (i := 28) rfl)) (hw _ (List.mem_of_getElem? (i := 2) rfl)) (by decide) (by decide)) (g := (mkF m 9 #[.val (.ref a1), .val (.double (4655631299166339072 : UInt64)), .second, .val (.double (4636737291354636288 : UInt64)), .second, .val (.double (4639481672377565184 : UInt64)), .second] [(.ref b11), (.double (4655631299166339072 : UInt64)), (.ref b5)])) rfl (by rw [hml]; rfl) (argsL := [(.ref b5), (.double (4655631299166339072 : UInt64)), (.ref b11)]) (rest := []) (lenOf pd_1 rfl) rfl (by show 2 * 0 + _ ≤ _; exact Nat.le_of_eq rfl) (hb hby d1_9) (fun _ _ => ⟨rfl, e11, (by decide : 4 + 0 ≤ _), (by decide : 80 + 0 ≤ _)⟩)
  dsimp only [Pt.U, Pt.locs, Pt.cells, Pt.slots] at X15 l15 y15 z15 st15 hQ15
  subst l15 y15 z15
  obtain ⟨rfl, Nq15, e15⟩ := hQ15
  have N16 := Fr.app N3 Nq15
  have J17 : ∀ t, Steps p.tables e below (T15.setTop (mkF m 12 #[.val (.ref a1), .val (.double (4655631299166339072 : UInt64)), .second, .val (.double (4636737291354636288 : UInt64)), .second, .val (.double (4639481672377565184 : UInt64)), .second] [])) t → Steps p.tables e below (s₁.setTop (entryFrame m #[(.ref a1), (.double (4655631299166339072 : UInt64)), (.double (4636737291354636288 : UInt64)), (.double (4639481672377565184 : UInt64))] 7)) t := fun t k => J12 t (st15 t k)
  have f18 := f10.ext E11
  obtain ⟨b19, T19, h19, k19, X19, e19, E19, hSi, kz, hZ, hown, st19⟩ := ldcS X15 hx hZ hown (hw _ (List.mem_of_getElem? (i := 30) rfl)) own_wS e15 hSi kz (g := (mkF m 12 #[.val (.ref a1), .val (.double (4655631299166339072 : UInt64)), .second, .val (.double (4636737291354636288 : UInt64)), .second, .val (.double (4639481672377565184 : UInt64)), .second] [])) rfl (hb hby d1_12) (n := 40) (by decide) (by decide) (by decide) (by decide)
  have J20 : ∀ t, Steps p.tables e below (T19.setTop (mkF m 14 #[.val (.ref a1), .val (.double (4655631299166339072 : UInt64)), .second, .val (.double (4636737291354636288 : UInt64)), .second, .val (.double (4639481672377565184 : UInt64)), .second] [(.ref b19)])) t → Steps p.tables e below (s₁.setTop (entryFrame m #[(.ref a1), (.double (4655631299166339072 : UInt64)), (.double (4636737291354636288 : UInt64)), (.double (4639481672377565184 : UInt64))] 7)) t := fun t k => J17 t (st19 t k)
  have Z21 : n0 ≤ h19.size := Nat.le_trans Z13 E19.1
  have KK22 : Keep h0 h19 [a1] := KK14.ext E19
  have J23 : ∀ t, Steps p.tables e below (T19.setTop (mkF m 15 #[.val (.ref a1), .val (.double (4655631299166339072 : UInt64)), .second, .val (.double (4636737291354636288 : UInt64)), .second, .val (.double (4639481672377565184 : UInt64)), .second] [(.double (4636737291354636288 : UInt64)), (.ref b19)])) t → Steps p.tables e below (s₁.setTop (entryFrame m #[(.ref a1), (.double (4655631299166339072 : UInt64)), (.double (4636737291354636288 : UInt64)), (.double (4639481672377565184 : UInt64))] 7)) t := fun t k => J20 t (by
      show Steps p.tables e below (T19.setTop (mkF m 14 #[.val (.ref a1), .val (.double (4655631299166339072 : UInt64)), .second, .val (.double (4636737291354636288 : UInt64)), .second, .val (.double (4639481672377565184 : UInt64)), .second] [(.ref b19)])) _
      refine XS.dloadN X19.here hx rfl (hb hby d1_14) rfl ?_
      exact k)
  have f24 := f18.ext E19
  obtain ⟨b25, T25, h25, k25, X25, e25, E25, hSi, kz, hZ, hown, st25⟩ := ldcS X19 hx hZ hown (hw _ (List.mem_of_getElem? (i := 31) rfl)) own_wS e19 hSi kz (g := (mkF m 15 #[.val (.ref a1), .val (.double (4655631299166339072 : UInt64)), .second, .val (.double (4636737291354636288 : UInt64)), .second, .val (.double (4639481672377565184 : UInt64)), .second] [(.double (4636737291354636288 : UInt64)), (.ref b19)])) rfl (hb hby d1_15) (n := 16) (by decide) (by decide) (by decide) (by decide)
  have J26 : ∀ t, Steps p.tables e below (T25.setTop (mkF m 17 #[.val (.ref a1), .val (.double (4655631299166339072 : UInt64)), .second, .val (.double (4636737291354636288 : UInt64)), .second, .val (.double (4639481672377565184 : UInt64)), .second] [(.ref b25), (.double (4636737291354636288 : UInt64)), (.ref b19)])) t → Steps p.tables e below (s₁.setTop (entryFrame m #[(.ref a1), (.double (4655631299166339072 : UInt64)), (.double (4636737291354636288 : UInt64)), (.double (4639481672377565184 : UInt64))] 7)) t := fun t k => J23 t (st25 t k)
  have Z27 : n0 ≤ h25.size := Nat.le_trans Z21 E25.1
  have KK28 : Keep h0 h25 [a1] := KK22.ext E25
  obtain ⟨_, _, ⟨T29, L29, k29, n29⟩, -, X29, ⟨Lc29, hQ29, l29, y29, z29⟩, st29⟩ := Jvm.LawKit.callS X25 hx (y := (⟨"com/example/graded_flow/gradedflow/network/TriangularDiagram", "requirePositive", "(Ljava/lang/String;DLjava/lang/String;)V"⟩ : MethodName)) hown (mvT hZ (hw _ (List.mem_of_getElem? (i := 26) rfl))) (mvT hZ (hw _ (List.mem_of_getElem? (i := 27) rfl))) (mvT hZ (hw _ (List.mem_of_getElem? (i := 2) rfl))) (mvT hZ (hw _ (List.mem_of_getElem? (i := 28) rfl))) (by decide) (backOf (W := 0) (rm4 l Z a0 hw [] b19 (4636737291354636288 : UInt64) b25 h25 n0 Z27 (by decide +kernel) (by decide +kernel)) hZ (hw _ (List.mem_of_getElem? (i := 28) rfl)) (hw _ (List.mem_of_getElem? (i := 2) rfl)) (by decide) (by decide)) (g := (mkF m 17 #[.val (.ref a1), .val (.double (4655631299166339072 : UInt64)), .second, .val (.double (4636737291354636288 : UInt64)), .second, .val (.double (4639481672377565184 : UInt64)), .second] [(.ref b25), (.double (4636737291354636288 : UInt64)), (.ref b19)])) rfl (by rw [hml]; rfl) (argsL := [(.ref b19), (.double (4636737291354636288 : UInt64)), (.ref b25)]) (rest := []) (lenOf pd_1 rfl) rfl (by show 2 * 0 + _ ≤ _; exact Nat.le_of_eq rfl) (hb hby d1_17) (fun _ _ => ⟨rfl, e25, (by decide : 8 + 0 ≤ _), (by decide : 144 + 0 ≤ _)⟩)
  dsimp only [Pt.U, Pt.locs, Pt.cells, Pt.slots] at X29 l29 y29 z29 st29 hQ29
  subst l29 y29 z29
  obtain ⟨rfl, Nq29, e29⟩ := hQ29
  have N30 := Fr.app N16 Nq29
  have J31 : ∀ t, Steps p.tables e below (T29.setTop (mkF m 20 #[.val (.ref a1), .val (.double (4655631299166339072 : UInt64)), .second, .val (.double (4636737291354636288 : UInt64)), .second, .val (.double (4639481672377565184 : UInt64)), .second] [])) t → Steps p.tables e below (s₁.setTop (entryFrame m #[(.ref a1), (.double (4655631299166339072 : UInt64)), (.double (4636737291354636288 : UInt64)), (.double (4639481672377565184 : UInt64))] 7)) t := fun t k => J26 t (st29 t k)
  have f32 := f24.ext E25
  obtain ⟨b33, T33, h33, k33, X33, e33, E33, hSi, kz, hZ, hown, st33⟩ := ldcS X29 hx hZ hown (hw _ (List.mem_of_getElem? (i := 32) rfl)) own_wS e29 hSi kz (g := (mkF m 20 #[.val (.ref a1), .val (.double (4655631299166339072 : UInt64)), .second, .val (.double (4636737291354636288 : UInt64)), .second, .val (.double (4639481672377565184 : UInt64)), .second] [])) rfl (hb hby d1_20) (n := 44) (by decide) (by decide) (by decide) (by decide)
  have J34 : ∀ t, Steps p.tables e below (T33.setTop (mkF m 22 #[.val (.ref a1), .val (.double (4655631299166339072 : UInt64)), .second, .val (.double (4636737291354636288 : UInt64)), .second, .val (.double (4639481672377565184 : UInt64)), .second] [(.ref b33)])) t → Steps p.tables e below (s₁.setTop (entryFrame m #[(.ref a1), (.double (4655631299166339072 : UInt64)), (.double (4636737291354636288 : UInt64)), (.double (4639481672377565184 : UInt64))] 7)) t := fun t k => J31 t (st33 t k)
  have Z35 : n0 ≤ h33.size := Nat.le_trans Z27 E33.1
  have KK36 : Keep h0 h33 [a1] := KK28.ext E33
  have J37 : ∀ t, Steps p.tables e below (T33.setTop (mkF m 24 #[.val (.ref a1), .val (.double (4655631299166339072 : UInt64)), .second, .val (.double (4636737291354636288 : UInt64)), .second, .val (.double (4639481672377565184 : UInt64)), .second] [(.double (4639481672377565184 : UInt64)), (.ref b33)])) t → Steps p.tables e below (s₁.setTop (entryFrame m #[(.ref a1), (.double (4655631299166339072 : UInt64)), (.double (4636737291354636288 : UInt64)), (.double (4639481672377565184 : UInt64))] 7)) t := fun t k => J34 t (by
      show Steps p.tables e below (T33.setTop (mkF m 22 #[.val (.ref a1), .val (.double (4655631299166339072 : UInt64)), .second, .val (.double (4636737291354636288 : UInt64)), .second, .val (.double (4639481672377565184 : UInt64)), .second] [(.ref b33)])) _
      refine XS.dload X33.here hx rfl (hb hby d1_22) rfl ?_
      exact k)
  have f38 := f32.ext E33
  obtain ⟨b39, T39, h39, k39, X39, e39, E39, hSi, kz, hZ, hown, st39⟩ := ldcS X33 hx hZ hown (hw _ (List.mem_of_getElem? (i := 33) rfl)) own_wS e33 hSi kz (g := (mkF m 24 #[.val (.ref a1), .val (.double (4655631299166339072 : UInt64)), .second, .val (.double (4636737291354636288 : UInt64)), .second, .val (.double (4639481672377565184 : UInt64)), .second] [(.double (4639481672377565184 : UInt64)), (.ref b33)])) rfl (hb hby d1_24) (n := 44) (by decide) (by decide) (by decide) (by decide)
  have J40 : ∀ t, Steps p.tables e below (T39.setTop (mkF m 26 #[.val (.ref a1), .val (.double (4655631299166339072 : UInt64)), .second, .val (.double (4636737291354636288 : UInt64)), .second, .val (.double (4639481672377565184 : UInt64)), .second] [(.ref b39), (.double (4639481672377565184 : UInt64)), (.ref b33)])) t → Steps p.tables e below (s₁.setTop (entryFrame m #[(.ref a1), (.double (4655631299166339072 : UInt64)), (.double (4636737291354636288 : UInt64)), (.double (4639481672377565184 : UInt64))] 7)) t := fun t k => J37 t (st39 t k)
  have Z41 : n0 ≤ h39.size := Nat.le_trans Z35 E39.1
  have KK42 : Keep h0 h39 [a1] := KK36.ext E39
  obtain ⟨_, _, ⟨T43, L43, k43, n43⟩, -, X43, ⟨Lc43, hQ43, l43, y43, z43⟩, st43⟩ := Jvm.LawKit.callS X39 hx (y := (⟨"com/example/graded_flow/gradedflow/network/TriangularDiagram", "requirePositive", "(Ljava/lang/String;DLjava/lang/String;)V"⟩ : MethodName)) hown (mvT hZ (hw _ (List.mem_of_getElem? (i := 26) rfl))) (mvT hZ (hw _ (List.mem_of_getElem? (i := 27) rfl))) (mvT hZ (hw _ (List.mem_of_getElem? (i := 2) rfl))) (mvT hZ (hw _ (List.mem_of_getElem? (i := 28) rfl))) (by decide) (backOf (W := 0) (rm4 l Z a0 hw [] b33 (4639481672377565184 : UInt64) b39 h39 n0 Z41 (by decide +kernel) (by decide +kernel)) hZ (hw _ (List.mem_of_getElem? (i := 28) rfl)) (hw _ (List.mem_of_getElem? (i := 2) rfl)) (by decide) (by decide)) (g := (mkF m 26 #[.val (.ref a1), .val (.double (4655631299166339072 : UInt64)), .second, .val (.double (4636737291354636288 : UInt64)), .second, .val (.double (4639481672377565184 : UInt64)), .second] [(.ref b39), (.double (4639481672377565184 : UInt64)), (.ref b33)])) rfl (by rw [hml]; rfl) (argsL := [(.ref b33), (.double (4639481672377565184 : UInt64)), (.ref b39)]) (rest := []) (lenOf pd_1 rfl) rfl (by show 2 * 0 + _ ≤ _; exact Nat.le_of_eq rfl) (hb hby d1_26) (fun _ _ => ⟨rfl, e39, (by decide : 12 + 0 ≤ _), (by decide : 240 + 0 ≤ _)⟩)
  dsimp only [Pt.U, Pt.locs, Pt.cells, Pt.slots] at X43 l43 y43 z43 st43 hQ43
  subst l43 y43 z43
  obtain ⟨rfl, Nq43, e43⟩ := hQ43
  have N44 := Fr.app N30 Nq43
  have J45 : ∀ t, Steps p.tables e below (T43.setTop (mkF m 29 #[.val (.ref a1), .val (.double (4655631299166339072 : UInt64)), .second, .val (.double (4636737291354636288 : UInt64)), .second, .val (.double (4639481672377565184 : UInt64)), .second] [])) t → Steps p.tables e below (s₁.setTop (entryFrame m #[(.ref a1), (.double (4655631299166339072 : UInt64)), (.double (4636737291354636288 : UInt64)), (.double (4639481672377565184 : UInt64))] 7)) t := fun t k => J40 t (st43 t k)
  have J46 : ∀ t, Steps p.tables e below (T43.setTop (mkF m 88 #[.val (.ref a1), .val (.double (4655631299166339072 : UInt64)), .second, .val (.double (4636737291354636288 : UInt64)), .second, .val (.double (4639481672377565184 : UInt64)), .second] [(.double (4655631299166339072 : UInt64)), (.ref a1)])) t → Steps p.tables e below (s₁.setTop (entryFrame m #[(.ref a1), (.double (4655631299166339072 : UInt64)), (.double (4636737291354636288 : UInt64)), (.double (4639481672377565184 : UInt64))] 7)) t := fun t k => J45 t (by
      show Steps p.tables e below (T43.setTop (mkF m 29 #[.val (.ref a1), .val (.double (4655631299166339072 : UInt64)), .second, .val (.double (4636737291354636288 : UInt64)), .second, .val (.double (4639481672377565184 : UInt64)), .second] [])) _
      refine XS.dloadN X43.here hx rfl (hb hby d1_29) rfl ?_
      show Steps p.tables e below (T43.setTop (mkF m 30 #[.val (.ref a1), .val (.double (4655631299166339072 : UInt64)), .second, .val (.double (4636737291354636288 : UInt64)), .second, .val (.double (4639481672377565184 : UInt64)), .second] [(.double (4655631299166339072 : UInt64))])) _
      refine XS.dloadN X43.here hx rfl (hb hby d1_30) rfl ?_
      show Steps p.tables e below (T43.setTop (mkF m 31 #[.val (.ref a1), .val (.double (4655631299166339072 : UInt64)), .second, .val (.double (4636737291354636288 : UInt64)), .second, .val (.double (4639481672377565184 : UInt64)), .second] [(.double (4636737291354636288 : UInt64)), (.double (4655631299166339072 : UInt64))])) _
      refine XS.ddivS X43.here hx rfl (hb hby d1_31) rfl own_c1 rfl ?_
      show Steps p.tables e below (T43.setTop (mkF m 32 #[.val (.ref a1), .val (.double (4655631299166339072 : UInt64)), .second, .val (.double (4636737291354636288 : UInt64)), .second, .val (.double (4639481672377565184 : UInt64)), .second] [(.double (FP.ddiv (4655631299166339072 : UInt64) (4636737291354636288 : UInt64)))])) _
      refine XS.dload X43.here hx rfl (hb hby d1_32) rfl ?_
      show Steps p.tables e below (T43.setTop (mkF m 34 #[.val (.ref a1), .val (.double (4655631299166339072 : UInt64)), .second, .val (.double (4636737291354636288 : UInt64)), .second, .val (.double (4639481672377565184 : UInt64)), .second] [(.double (4639481672377565184 : UInt64)), (.double (FP.ddiv (4655631299166339072 : UInt64) (4636737291354636288 : UInt64)))])) _
      refine XS.dcmpS X43.here hx rfl (hb hby d1_34) rfl rfl ?_
      show Steps p.tables e below (T43.setTop (mkF m 35 #[.val (.ref a1), .val (.double (4655631299166339072 : UInt64)), .second, .val (.double (4636737291354636288 : UInt64)), .second, .val (.double (4639481672377565184 : UInt64)), .second] [(.int (cmpValue (FP.dcmp (FP.ddiv (4655631299166339072 : UInt64) (4636737291354636288 : UInt64)) (4639481672377565184 : UInt64)) .l))])) _
      refine XS.ifYes X43.here hx rfl (pc0 := 35) (pc' := 86) rfl (hb hby d1_35) rfl ((if0 _ _).trans (tlt (by decide +kernel)).1) (by decide) (by decide) ?_
      show Steps p.tables e below (T43.setTop (mkF m 86 #[.val (.ref a1), .val (.double (4655631299166339072 : UInt64)), .second, .val (.double (4636737291354636288 : UInt64)), .second, .val (.double (4639481672377565184 : UInt64)), .second] [])) _
      refine XS.aloadN X43.here hx rfl (hb hby d1_86) rfl rfl ?_
      show Steps p.tables e below (T43.setTop (mkF m 87 #[.val (.ref a1), .val (.double (4655631299166339072 : UInt64)), .second, .val (.double (4636737291354636288 : UInt64)), .second, .val (.double (4639481672377565184 : UInt64)), .second] [(.ref a1)])) _
      refine XS.dloadN X43.here hx rfl (hb hby d1_87) rfl ?_
      exact k)
  have f47 := F_capacity_a1.ext E5
  have f48 := f47.ext E11
  have f49 := f48.ext E19
  have f50 := f49.ext E25
  have f51 := f50.ext E33
  have f52 := f51.ext E39
  have f53 := f38.ext E39
  obtain ⟨T54, h54, X54, e54, W54, st54⟩ := putF X43 hx hZ hown (host := "") (Or.inl (hw _ (List.mem_of_getElem? (i := 34) rfl))) Via.refl e43 f52 f53 (Or.inr ⟨(hw _ (List.mem_of_getElem? (i := 35) rfl)), rfl, hnm⟩) (hw _ (List.mem_of_getElem? (i := 1) rfl)) (ty := .double) (by decide) rfl rfl (g := (mkF m 88 #[.val (.ref a1), .val (.double (4655631299166339072 : UInt64)), .second, .val (.double (4636737291354636288 : UInt64)), .second, .val (.double (4639481672377565184 : UInt64)), .second] [(.double (4655631299166339072 : UInt64)), (.ref a1)])) rfl rfl (hb hby d1_88)
  have J55 : ∀ t, Steps p.tables e below (T54.setTop (mkF m 91 #[.val (.ref a1), .val (.double (4655631299166339072 : UInt64)), .second, .val (.double (4636737291354636288 : UInt64)), .second, .val (.double (4639481672377565184 : UInt64)), .second] [])) t → Steps p.tables e below (s₁.setTop (entryFrame m #[(.ref a1), (.double (4655631299166339072 : UInt64)), (.double (4636737291354636288 : UInt64)), (.double (4639481672377565184 : UInt64))] 7)) t := fun t k => J46 t (st54 t k)
  have Z56 : n0 ≤ h54.size := Nat.le_trans Z41 (Keep.of_wr W54).1
  have kz := Nat.le_trans kz (Keep.of_wr W54).1
  have KK57 : Keep h0 h54 [a1] := KK42.wr W54 (Or.inl (List.mem_of_getElem? (i := 0) rfl))
  have N58 := Fr.snoc X54 N44 g_a1
  have Fw54 := f52.same W54
  have J59 : ∀ t, Steps p.tables e below (T54.setTop (mkF m 93 #[.val (.ref a1), .val (.double (4655631299166339072 : UInt64)), .second, .val (.double (4636737291354636288 : UInt64)), .second, .val (.double (4639481672377565184 : UInt64)), .second] [(.double (4636737291354636288 : UInt64)), (.ref a1)])) t → Steps p.tables e below (s₁.setTop (entryFrame m #[(.ref a1), (.double (4655631299166339072 : UInt64)), (.double (4636737291354636288 : UInt64)), (.double (4639481672377565184 : UInt64))] 7)) t := fun t k => J55 t (by
      show Steps p.tables e below (T54.setTop (mkF m 91 #[.val (.ref a1), .val (.double (4655631299166339072 : UInt64)), .second, .val (.double (4636737291354636288 : UInt64)), .second, .val (.double (4639481672377565184 : UInt64)), .second] [])) _
      refine XS.aloadN X54.here hx rfl (hb hby d1_91) rfl rfl ?_
      show Steps p.tables e below (T54.setTop (mkF m 92 #[.val (.ref a1), .val (.double (4655631299166339072 : UInt64)), .second, .val (.double (4636737291354636288 : UInt64)), .second, .val (.double (4639481672377565184 : UInt64)), .second] [(.ref a1)])) _
      refine XS.dloadN X54.here hx rfl (hb hby d1_92) rfl ?_
      exact k)
  have f60 := F_freeSpeed_a1.ext E5
  have f61 := f60.ext E11
  have f62 := f61.ext E19
  have f63 := f62.ext E25
  have f64 := f63.ext E33
  have f65 := f64.ext E39
  have f66 := f65.other W54 (Or.inr (slot_ne (Or.inr (hw _ (List.mem_of_getElem? (i := 37) rfl))) (Or.inr (hw _ (List.mem_of_getElem? (i := 35) rfl))) (by decide) (t := .double) (t' := .double) (by decide) (by decide)))
  have f67 := f53.wr W54
  obtain ⟨T68, h68, X68, e68, W68, st68⟩ := putF X54 hx hZ hown (host := "") (Or.inl (hw _ (List.mem_of_getElem? (i := 36) rfl))) Via.refl e54 f66 f67 (Or.inr ⟨(hw _ (List.mem_of_getElem? (i := 37) rfl)), rfl, hnm⟩) (hw _ (List.mem_of_getElem? (i := 1) rfl)) (ty := .double) (by decide) rfl rfl (g := (mkF m 93 #[.val (.ref a1), .val (.double (4655631299166339072 : UInt64)), .second, .val (.double (4636737291354636288 : UInt64)), .second, .val (.double (4639481672377565184 : UInt64)), .second] [(.double (4636737291354636288 : UInt64)), (.ref a1)])) rfl rfl (hb hby d1_93)
  have J69 : ∀ t, Steps p.tables e below (T68.setTop (mkF m 96 #[.val (.ref a1), .val (.double (4655631299166339072 : UInt64)), .second, .val (.double (4636737291354636288 : UInt64)), .second, .val (.double (4639481672377565184 : UInt64)), .second] [])) t → Steps p.tables e below (s₁.setTop (entryFrame m #[(.ref a1), (.double (4655631299166339072 : UInt64)), (.double (4636737291354636288 : UInt64)), (.double (4639481672377565184 : UInt64))] 7)) t := fun t k => J59 t (st68 t k)
  have Z70 : n0 ≤ h68.size := Nat.le_trans Z56 (Keep.of_wr W68).1
  have kz := Nat.le_trans kz (Keep.of_wr W68).1
  have KK71 : Keep h0 h68 [a1] := KK57.wr W68 (Or.inl (List.mem_of_getElem? (i := 0) rfl))
  have N72 := Fr.snoc X68 N58 g_a1
  have Fw68 := f66.same W68
  have J73 : ∀ t, Steps p.tables e below (T68.setTop (mkF m 99 #[.val (.ref a1), .val (.double (4655631299166339072 : UInt64)), .second, .val (.double (4636737291354636288 : UInt64)), .second, .val (.double (4639481672377565184 : UInt64)), .second] [(.double (4639481672377565184 : UInt64)), (.ref a1)])) t → Steps p.tables e below (s₁.setTop (entryFrame m #[(.ref a1), (.double (4655631299166339072 : UInt64)), (.double (4636737291354636288 : UInt64)), (.double (4639481672377565184 : UInt64))] 7)) t := fun t k => J69 t (by
      show Steps p.tables e below (T68.setTop (mkF m 96 #[.val (.ref a1), .val (.double (4655631299166339072 : UInt64)), .second, .val (.double (4636737291354636288 : UInt64)), .second, .val (.double (4639481672377565184 : UInt64)), .second] [])) _
      refine XS.aloadN X68.here hx rfl (hb hby d1_96) rfl rfl ?_
      show Steps p.tables e below (T68.setTop (mkF m 97 #[.val (.ref a1), .val (.double (4655631299166339072 : UInt64)), .second, .val (.double (4636737291354636288 : UInt64)), .second, .val (.double (4639481672377565184 : UInt64)), .second] [(.ref a1)])) _
      refine XS.dload X68.here hx rfl (hb hby d1_97) rfl ?_
      exact k)
  have f74 := F_jamDensity_a1.ext E5
  have f75 := f74.ext E11
  have f76 := f75.ext E19
  have f77 := f76.ext E25
  have f78 := f77.ext E33
  have f79 := f78.ext E39
  have f80 := f79.other W54 (Or.inr (slot_ne (Or.inr (hw _ (List.mem_of_getElem? (i := 39) rfl))) (Or.inr (hw _ (List.mem_of_getElem? (i := 35) rfl))) (by decide) (t := .double) (t' := .double) (by decide) (by decide)))
  have f81 := f80.other W68 (Or.inr (slot_ne (Or.inr (hw _ (List.mem_of_getElem? (i := 39) rfl))) (Or.inr (hw _ (List.mem_of_getElem? (i := 37) rfl))) (by decide) (t := .double) (t' := .double) (by decide) (by decide)))
  have f82 := f67.wr W68
  obtain ⟨T83, h83, X83, e83, W83, st83⟩ := putF X68 hx hZ hown (host := "") (Or.inl (hw _ (List.mem_of_getElem? (i := 38) rfl))) Via.refl e68 f81 f82 (Or.inr ⟨(hw _ (List.mem_of_getElem? (i := 39) rfl)), rfl, hnm⟩) (hw _ (List.mem_of_getElem? (i := 1) rfl)) (ty := .double) (by decide) rfl rfl (g := (mkF m 99 #[.val (.ref a1), .val (.double (4655631299166339072 : UInt64)), .second, .val (.double (4636737291354636288 : UInt64)), .second, .val (.double (4639481672377565184 : UInt64)), .second] [(.double (4639481672377565184 : UInt64)), (.ref a1)])) rfl rfl (hb hby d1_99)
  have J84 : ∀ t, Steps p.tables e below (T83.setTop (mkF m 102 #[.val (.ref a1), .val (.double (4655631299166339072 : UInt64)), .second, .val (.double (4636737291354636288 : UInt64)), .second, .val (.double (4639481672377565184 : UInt64)), .second] [])) t → Steps p.tables e below (s₁.setTop (entryFrame m #[(.ref a1), (.double (4655631299166339072 : UInt64)), (.double (4636737291354636288 : UInt64)), (.double (4639481672377565184 : UInt64))] 7)) t := fun t k => J73 t (st83 t k)
  have Z85 : n0 ≤ h83.size := Nat.le_trans Z70 (Keep.of_wr W83).1
  have kz := Nat.le_trans kz (Keep.of_wr W83).1
  have KK86 : Keep h0 h83 [a1] := KK71.wr W83 (Or.inl (List.mem_of_getElem? (i := 0) rfl))
  have N87 := Fr.snoc X83 N72 g_a1
  have Fw83 := f81.same W83
  obtain ⟨fs, hr, hrun, hended, hWW⟩ := X83.leaveW hSi (by rw [e83]; exact kz) (v := none) (fun _ => rfl)
  have f88 := f82.wr W83
  have f89 := Fw54.other W68 (Or.inr (slot_ne (Or.inr (hw _ (List.mem_of_getElem? (i := 35) rfl))) (Or.inr (hw _ (List.mem_of_getElem? (i := 37) rfl))) (by decide) (t := .double) (t' := .double) (by decide) (by decide)))
  have f90 := f89.other W83 (Or.inr (slot_ne (Or.inr (hw _ (List.mem_of_getElem? (i := 35) rfl))) (Or.inr (hw _ (List.mem_of_getElem? (i := 39) rfl))) (by decide) (t := .double) (t' := .double) (by decide) (by decide)))
  have f91 := Fw68.other W83 (Or.inr (slot_ne (Or.inr (hw _ (List.mem_of_getElem? (i := 37) rfl))) (Or.inr (hw _ (List.mem_of_getElem? (i := 39) rfl))) (by decide) (t := .double) (t' := .double) (by decide) (by decide)))
  refine ⟨_, _, J84 _ ?_, hrun, hended, _, _, rfl, ?_, hWW.1, hWW.2.1, hWW.2.2.1, hWW.2.2.2.mono (by decide) (by decide)⟩
  · show Steps p.tables e below (T83.setTop (mkF m 102 #[.val (.ref a1), .val (.double (4655631299166339072 : UInt64)), .second, .val (.double (4636737291354636288 : UInt64)), .second, .val (.double (4639481672377565184 : UInt64)), .second] [])) _
    exact X83.returnOut hx Bd.returns (hb hby d1_102) hr
  · show Q1 Z a1 u1 u2 u3 h0 n0 _ T83.heap _
    rw [e83]
    exact ⟨rfl, N87, KK86, f88, f90, f91, Fw83⟩
theorem d5_0 : decode prog_25_method_1_code 0 = .ok (.aload_n 0, 1) := by decide +kernel
theorem d5_1 : decode prog_25_method_1_code 1 = .ok (.invokespecial 1, 3) := by decide +kernel
theorem d5_4 : decode prog_25_method_1_code 4 = .ok (.dload 4, 2) := by decide +kernel
theorem d5_6 : decode prog_25_method_1_code 6 = .ok (.dconst 0, 1) := by decide +kernel
theorem d5_7 : decode prog_25_method_1_code 7 = .ok (.dcmp .l, 1) := by decide +kernel
theorem d5_8 : decode prog_25_method_1_code 8 = .ok (.ifCond .le 12, 3) := by decide +kernel
theorem d5_11 : decode prog_25_method_1_code 11 = .ok (.dload 4, 2) := by decide +kernel
theorem d5_13 : decode prog_25_method_1_code 13 = .ok (.ldc2_w 9, 3) := by decide +kernel
theorem d5_16 : decode prog_25_method_1_code 16 = .ok (.dcmp .g, 1) := by decide +kernel
theorem d5_17 : decode prog_25_method_1_code 17 = .ok (.ifCond .lt 32, 3) := by decide +kernel
theorem d5_49 : decode prog_25_method_1_code 49 = .ok (.iload 6, 2) := by decide +kernel
theorem d5_51 : decode prog_25_method_1_code 51 = .ok (.iconst 1, 1) := by decide +kernel
theorem d5_52 : decode prog_25_method_1_code 52 = .ok (.if_icmp .ge 32, 3) := by decide +kernel
theorem d5_84 : decode prog_25_method_1_code 84 = .ok (.aload_n 0, 1) := by decide +kernel
theorem d5_85 : decode prog_25_method_1_code 85 = .ok (.aload_n 1, 1) := by decide +kernel
theorem d5_86 : decode prog_25_method_1_code 86 = .ok (.putfield 37, 3) := by decide +kernel
theorem d5_89 : decode prog_25_method_1_code 89 = .ok (.aload_n 0, 1) := by decide +kernel
theorem d5_90 : decode prog_25_method_1_code 90 = .ok (.aload_n 2, 1) := by decide +kernel
theorem d5_91 : decode prog_25_method_1_code 91 = .ok (.putfield 43, 3) := by decide +kernel
theorem d5_94 : decode prog_25_method_1_code 94 = .ok (.aload_n 0, 1) := by decide +kernel
theorem d5_95 : decode prog_25_method_1_code 95 = .ok (.aload_n 3, 1) := by decide +kernel
theorem d5_96 : decode prog_25_method_1_code 96 = .ok (.putfield 46, 3) := by decide +kernel
theorem d5_99 : decode prog_25_method_1_code 99 = .ok (.aload_n 0, 1) := by decide +kernel
theorem d5_100 : decode prog_25_method_1_code 100 = .ok (.dload 4, 2) := by decide +kernel
theorem d5_102 : decode prog_25_method_1_code 102 = .ok (.putfield 49, 3) := by decide +kernel
theorem d5_105 : decode prog_25_method_1_code 105 = .ok (.aload_n 0, 1) := by decide +kernel
theorem d5_106 : decode prog_25_method_1_code 106 = .ok (.iload 6, 2) := by decide +kernel
theorem d5_108 : decode prog_25_method_1_code 108 = .ok (.putfield 53, 3) := by decide +kernel
theorem d5_111 : decode prog_25_method_1_code 111 = .ok (.aload_n 0, 1) := by decide +kernel
theorem d5_112 : decode prog_25_method_1_code 112 = .ok (.aload 7, 2) := by decide +kernel
theorem d5_114 : decode prog_25_method_1_code 114 = .ok (.putfield 57, 3) := by decide +kernel
theorem d5_117 : decode prog_25_method_1_code 117 = .ok (.aload_n 0, 1) := by decide +kernel
theorem d5_118 : decode prog_25_method_1_code 118 = .ok (.aload 8, 2) := by decide +kernel
theorem d5_120 : decode prog_25_method_1_code 120 = .ok (.putfield 61, 3) := by decide +kernel
theorem d5_123 : decode prog_25_method_1_code 123 = .ok (.return_, 1) := by decide +kernel
theorem pn_5 : plainName "com/example/graded_flow/gradedflow/network/Link" = true := by first | (simp [plainName, overriddenIn]; done) | decide +kernel
theorem ef_5_xxxxxxxn (m : MethodId) (x0 : Addr) (x1 : Addr) (x2 : Addr) (x3 : Addr) (x4 : UInt64) (x5 : Int32) (x6 : Addr) : entryFrame m #[(.ref x0), (.ref x1), (.ref x2), (.ref x3), (.double x4), (.int x5), (.ref x6), .null] 9 = mkF m 0 #[.val (.ref x0), .val (.ref x1), .val (.ref x2), .val (.ref x3), .val (.double x4), .second, .val (.int x5), .val (.ref x6), .val .null] [] := by first | (simp [entryFrame, mkF, argsToLocals, Value.category]; done) | rfl
def Q5 (Z : State) (a1 : Addr) (a2 : Addr) (a3 : Addr) (a4 : Addr) (a7 : Addr) (u0 : Value) (u1 : Value) (u2 : Value) (u3 : Value) (u4 : Value) (u5 : Value) (u6 : Value) (h0 : Heap) (n0 : Nat) (v : Option Value) (h : Heap) (L : List Loc) : Prop := v = none ∧ Fr n0 L ∧ Keep h0 h [a1] ∧ (Exa Z h a1 "com/example/graded_flow/gradedflow/network/Link") ∧ (Fld Z h a1 "com/example/graded_flow/gradedflow/network/Link" "lanes" "I" (.int (1 : Int32))) ∧ (Fld Z h a1 "com/example/graded_flow/gradedflow/network/Link" "road" "Lcom/example/graded_flow/gradedflow/network/TriangularDiagram;" (.ref a7))
set_option maxRecDepth 65536 in
set_option maxHeartbeats 40000000 in
theorem rm5 (l : Launch) (Z : State) (a0 : Array Value) (hw : ∀ d ∈ tables_1, d.before a0 Z = true) (ws : List Jvm.Cond) (a1 : Addr) (a2 : Addr) (a3 : Addr) (a4 : Addr) (a7 : Addr) (u0 : Value) (u1 : Value) (u2 : Value) (u3 : Value) (u4 : Value) (u5 : Value) (u6 : Value) (h0 : Heap) (n0 : Nat) (Z0 : n0 ≤ h0.size) (E_a1 : Exa Z h0 a1 "com/example/graded_flow/gradedflow/network/Link") (g_a1 : n0 ≤ a1) (F_id_a1 : Fld Z h0 a1 "com/example/graded_flow/gradedflow/network/Link" "id" "Ljava/lang/String;" u0) (F_from_a1 : Fld Z h0 a1 "com/example/graded_flow/gradedflow/network/Link" "from" "Ljava/lang/String;" u1) (F_to_a1 : Fld Z h0 a1 "com/example/graded_flow/gradedflow/network/Link" "to" "Ljava/lang/String;" u2) (F_length_a1 : Fld Z h0 a1 "com/example/graded_flow/gradedflow/network/Link" "length" "D" u3) (F_lanes_a1 : Fld Z h0 a1 "com/example/graded_flow/gradedflow/network/Link" "lanes" "I" u4) (F_road_a1 : Fld Z h0 a1 "com/example/graded_flow/gradedflow/network/Link" "road" "Lcom/example/graded_flow/gradedflow/network/TriangularDiagram;" u5) (F_model_a1 : Fld Z h0 a1 "com/example/graded_flow/gradedflow/network/Link" "model" "Lcom/example/graded_flow/gradedflow/network/LinkModel;" u6) :
    MetFree l (⟨"com/example/graded_flow/gradedflow/network/Link", "<init>", "(Ljava/lang/String;Ljava/lang/String;Ljava/lang/String;DILcom/example/graded_flow/gradedflow/network/TriangularDiagram;Lcom/example/graded_flow/gradedflow/network/LinkModel;)V"⟩ : MethodName) (head1 (Jvm.Cond.code (⟨"com/example/graded_flow/gradedflow/network/Link", "<init>", "(Ljava/lang/String;Ljava/lang/String;Ljava/lang/String;DILcom/example/graded_flow/gradedflow/network/TriangularDiagram;Lcom/example/graded_flow/gradedflow/network/LinkModel;)V"⟩ : MethodName) prog_25_method_1_code 9 none :: ws) ({ frames := 2, cells := 0, slots := 0, locals := 24 } : Room)) (fun a U => a = #[(.ref a1), (.ref a2), (.ref a3), (.ref a4), (.double (4652007308841189376 : UInt64)), (.int (1 : Int32)), (.ref a7), .null] ∧ Z.Warmed39 U.vm ∧ U.heap = h0) (fun _ _ _ _ _ => True) (fun _ U o U' => ∃ v L, o = .returned v ∧ Q5 Z a1 a2 a3 a4 a7 u0 u1 u2 u3 u4 u5 u6 h0 n0 v U'.heap L ∧ FrameEnd U o U' L ({ frames := 2, cells := 0, slots := 0, locals := 24 } : Room).cells ({ frames := 2, cells := 0, slots := 0, locals := 24 } : Room).slots) := by
  refine MetFree.of_bodySF (plainFor_of_name pn_5) hisR ?_
  intro p e s m args below meth c s₁ Bd hml0 hP hK
  obtain ⟨rfl, hZ, hh⟩ := hP
  have hx := Bd.exec
  have hby := Bd.bytes
  have hml : c.maxLocals = 9 := hml0
  have hown : s.vm.findClass "com/example/graded_flow/gradedflow/network/Link" = some m.cls := findClass_of_methodNamed Bd.named
  have hnm := (name_of_methodNamed Bd.named Bd.method).1
  have X0 : Stand p l e ({ frames := 2, cells := 0, slots := 0, locals := 24 } : Room) s m #[(.ref a1), (.ref a2), (.ref a3), (.ref a4), (.double (4652007308841189376 : UInt64)), (.int (1 : Int32)), (.ref a7), .null] below meth c s₁ [] 0 0 := Stand.of_body Bd
  have e0 : s₁.heap = h0 := by rw [← hh, Bd.state]; rfl
  have N0 := Fr.nil n0
  have pre0 : ∀ t, Steps p.tables e below (s₁.setTop (mkF m 0 #[.val (.ref a1), .val (.ref a2), .val (.ref a3), .val (.ref a4), .val (.double (4652007308841189376 : UInt64)), .second, .val (.int (1 : Int32)), .val (.ref a7), .val .null] [])) t → Steps p.tables e below (s₁.setTop (entryFrame m #[(.ref a1), (.ref a2), (.ref a3), (.ref a4), (.double (4652007308841189376 : UInt64)), (.int (1 : Int32)), (.ref a7), .null] 9)) t := fun t k => castTop (ef_5_xxxxxxxn m a1 a2 a3 a4 (4652007308841189376 : UInt64) (1 : Int32) a7) k
  have J1 : ∀ t, Steps p.tables e below (s₁.setTop (mkF m 1 #[.val (.ref a1), .val (.ref a2), .val (.ref a3), .val (.ref a4), .val (.double (4652007308841189376 : UInt64)), .second, .val (.int (1 : Int32)), .val (.ref a7), .val .null] [(.ref a1)])) t → Steps p.tables e below (s₁.setTop (entryFrame m #[(.ref a1), (.ref a2), (.ref a3), (.ref a4), (.double (4652007308841189376 : UInt64)), (.int (1 : Int32)), (.ref a7), .null] 9)) t := fun t k => pre0 t (by
      show Steps p.tables e below (s₁.setTop (mkF m 0 #[.val (.ref a1), .val (.ref a2), .val (.ref a3), .val (.ref a4), .val (.double (4652007308841189376 : UInt64)), .second, .val (.int (1 : Int32)), .val (.ref a7), .val .null] [])) _
      refine XS.aloadN X0.here hx rfl (hb hby d5_0) rfl rfl ?_
      exact k)
  obtain ⟨_, _, ⟨T2, L2, k2, n2⟩, -, X2, ⟨Lc2, hQ2, l2, y2, z2⟩, st2⟩ := X0.specialBack hx (y := (⟨"java/lang/Record", "<init>", "()V"⟩ : MethodName)) rfl hown (mvT hZ (hw _ (List.mem_of_getElem? (i := 50) rfl))) (mvT hZ (hw _ (List.mem_of_getElem? (i := 10) rfl))) (mvT hZ (hw _ (List.mem_of_getElem? (i := 13) rfl))) (by decide) (backOf (W := 0) (rm2 l Z a0 hw [] a1 h0 n0 Z0 ) hZ (hw _ (List.mem_of_getElem? (i := 13) rfl)) (hw _ (List.mem_of_getElem? (i := 12) rfl)) (by decide) (by decide)) (g := (mkF m 1 #[.val (.ref a1), .val (.ref a2), .val (.ref a3), .val (.ref a4), .val (.double (4652007308841189376 : UInt64)), .second, .val (.int (1 : Int32)), .val (.ref a7), .val .null] [(.ref a1)])) rfl (by rw [hml]; rfl) (Steps.refl _) (a := a1) (argsL := []) (rest := []) (lenOf pd_0 rfl) rfl (by show 2 * 0 + _ ≤ _; exact Nat.le_of_eq rfl) (hb hby d5_1) (fun _ _ => ⟨rfl, e0, (by decide : 0 + 0 ≤ _), (by decide : 0 + 0 ≤ _)⟩)
  dsimp only [Pt.U, Pt.locs, Pt.cells, Pt.slots] at X2 l2 y2 z2 st2 hQ2
  subst l2 y2 z2
  obtain ⟨rfl, Nq2, e2⟩ := hQ2
  have N3 := Fr.app N0 Nq2
  have J4 : ∀ t, Steps p.tables e below (T2.setTop (mkF m 4 #[.val (.ref a1), .val (.ref a2), .val (.ref a3), .val (.ref a4), .val (.double (4652007308841189376 : UInt64)), .second, .val (.int (1 : Int32)), .val (.ref a7), .val .null] [])) t → Steps p.tables e below (s₁.setTop (entryFrame m #[(.ref a1), (.ref a2), (.ref a3), (.ref a4), (.double (4652007308841189376 : UInt64)), (.int (1 : Int32)), (.ref a7), .null] 9)) t := fun t k => J1 t (st2.trans k)
  have J5 : ∀ t, Steps p.tables e below (T2.setTop (mkF m 86 #[.val (.ref a1), .val (.ref a2), .val (.ref a3), .val (.ref a4), .val (.double (4652007308841189376 : UInt64)), .second, .val (.int (1 : Int32)), .val (.ref a7), .val .null] [(.ref a2), (.ref a1)])) t → Steps p.tables e below (s₁.setTop (entryFrame m #[(.ref a1), (.ref a2), (.ref a3), (.ref a4), (.double (4652007308841189376 : UInt64)), (.int (1 : Int32)), (.ref a7), .null] 9)) t := fun t k => J4 t (by
      show Steps p.tables e below (T2.setTop (mkF m 4 #[.val (.ref a1), .val (.ref a2), .val (.ref a3), .val (.ref a4), .val (.double (4652007308841189376 : UInt64)), .second, .val (.int (1 : Int32)), .val (.ref a7), .val .null] [])) _
      refine XS.dload X2.here hx rfl (hb hby d5_4) rfl ?_
      show Steps p.tables e below (T2.setTop (mkF m 6 #[.val (.ref a1), .val (.ref a2), .val (.ref a3), .val (.ref a4), .val (.double (4652007308841189376 : UInt64)), .second, .val (.int (1 : Int32)), .val (.ref a7), .val .null] [(.double (4652007308841189376 : UInt64))])) _
      refine XS.dconst0 X2.here hx rfl (hb hby d5_6) rfl ?_
      show Steps p.tables e below (T2.setTop (mkF m 7 #[.val (.ref a1), .val (.ref a2), .val (.ref a3), .val (.ref a4), .val (.double (4652007308841189376 : UInt64)), .second, .val (.int (1 : Int32)), .val (.ref a7), .val .null] [(.double FP.dconst0), (.double (4652007308841189376 : UInt64))])) _
      refine XS.dcmpS X2.here hx rfl (hb hby d5_7) rfl rfl ?_
      show Steps p.tables e below (T2.setTop (mkF m 8 #[.val (.ref a1), .val (.ref a2), .val (.ref a3), .val (.ref a4), .val (.double (4652007308841189376 : UInt64)), .second, .val (.int (1 : Int32)), .val (.ref a7), .val .null] [(.int (cmpValue (FP.dcmp (4652007308841189376 : UInt64) FP.dconst0) .l))])) _
      refine XS.ifNo X2.here hx rfl (hb hby d5_8) rfl ((if0 _ _).trans (tlt (by decide +kernel)).2.2.2) ?_
      show Steps p.tables e below (T2.setTop (mkF m 11 #[.val (.ref a1), .val (.ref a2), .val (.ref a3), .val (.ref a4), .val (.double (4652007308841189376 : UInt64)), .second, .val (.int (1 : Int32)), .val (.ref a7), .val .null] [])) _
      refine XS.dload X2.here hx rfl (hb hby d5_11) rfl ?_
      show Steps p.tables e below (T2.setTop (mkF m 13 #[.val (.ref a1), .val (.ref a2), .val (.ref a3), .val (.ref a4), .val (.double (4652007308841189376 : UInt64)), .second, .val (.int (1 : Int32)), .val (.ref a7), .val .null] [(.double (4652007308841189376 : UInt64))])) _
      refine X2.ldc2DoubleC hx hown (mvT hZ (hw _ (List.mem_of_getElem? (i := 51) rfl))) (g := (mkF m 13 #[.val (.ref a1), .val (.ref a2), .val (.ref a3), .val (.ref a4), .val (.double (4652007308841189376 : UInt64)), .second, .val (.int (1 : Int32)), .val (.ref a7), .val .null] [(.double (4652007308841189376 : UInt64))])) rfl (hb hby d5_13) _ ?_
      show Steps p.tables e below (T2.setTop (mkF m 16 #[.val (.ref a1), .val (.ref a2), .val (.ref a3), .val (.ref a4), .val (.double (4652007308841189376 : UInt64)), .second, .val (.int (1 : Int32)), .val (.ref a7), .val .null] [(.double (9218868437227405312 : UInt64)), (.double (4652007308841189376 : UInt64))])) _
      refine XS.dcmpS X2.here hx rfl (hb hby d5_16) rfl rfl ?_
      show Steps p.tables e below (T2.setTop (mkF m 17 #[.val (.ref a1), .val (.ref a2), .val (.ref a3), .val (.ref a4), .val (.double (4652007308841189376 : UInt64)), .second, .val (.int (1 : Int32)), .val (.ref a7), .val .null] [(.int (cmpValue (FP.dcmp (4652007308841189376 : UInt64) (9218868437227405312 : UInt64)) .g))])) _
      refine XS.ifYes X2.here hx rfl (pc0 := 17) (pc' := 49) rfl (hb hby d5_17) rfl ((if0 _ _).trans (tlt (by decide +kernel)).1) (by decide) (by decide) ?_
      show Steps p.tables e below (T2.setTop (mkF m 49 #[.val (.ref a1), .val (.ref a2), .val (.ref a3), .val (.ref a4), .val (.double (4652007308841189376 : UInt64)), .second, .val (.int (1 : Int32)), .val (.ref a7), .val .null] [])) _
      refine XS.iload X2.here hx rfl (hb hby d5_49) rfl ?_
      show Steps p.tables e below (T2.setTop (mkF m 51 #[.val (.ref a1), .val (.ref a2), .val (.ref a3), .val (.ref a4), .val (.double (4652007308841189376 : UInt64)), .second, .val (.int (1 : Int32)), .val (.ref a7), .val .null] [(.int (1 : Int32))])) _
      refine XS.iconst X2.here hx rfl (hb hby d5_51) ?_
      show Steps p.tables e below (T2.setTop (mkF m 52 #[.val (.ref a1), .val (.ref a2), .val (.ref a3), .val (.ref a4), .val (.double (4652007308841189376 : UInt64)), .second, .val (.int (1 : Int32)), .val (.ref a7), .val .null] [(.int (1 : Int32)), (.int (1 : Int32))])) _
      refine XS.icmpYes X2.here hx rfl (pc0 := 52) (pc' := 84) rfl (hb hby d5_52) rfl (flt (by decide)).2.1 (by decide) (by decide) ?_
      show Steps p.tables e below (T2.setTop (mkF m 84 #[.val (.ref a1), .val (.ref a2), .val (.ref a3), .val (.ref a4), .val (.double (4652007308841189376 : UInt64)), .second, .val (.int (1 : Int32)), .val (.ref a7), .val .null] [])) _
      refine XS.aloadN X2.here hx rfl (hb hby d5_84) rfl rfl ?_
      show Steps p.tables e below (T2.setTop (mkF m 85 #[.val (.ref a1), .val (.ref a2), .val (.ref a3), .val (.ref a4), .val (.double (4652007308841189376 : UInt64)), .second, .val (.int (1 : Int32)), .val (.ref a7), .val .null] [(.ref a1)])) _
      refine XS.aloadN X2.here hx rfl (hb hby d5_85) rfl rfl ?_
      exact k)
  obtain ⟨T6, h6, X6, e6, W6, st6⟩ := putF X2 hx hZ hown (host := "") (Or.inl (hw _ (List.mem_of_getElem? (i := 52) rfl))) Via.refl e2 F_id_a1 E_a1 (Or.inr ⟨(hw _ (List.mem_of_getElem? (i := 53) rfl)), rfl, hnm⟩) (hw _ (List.mem_of_getElem? (i := 41) rfl)) (ty := (.object "java/lang/String")) (by decide) rfl rfl (g := (mkF m 86 #[.val (.ref a1), .val (.ref a2), .val (.ref a3), .val (.ref a4), .val (.double (4652007308841189376 : UInt64)), .second, .val (.int (1 : Int32)), .val (.ref a7), .val .null] [(.ref a2), (.ref a1)])) rfl rfl (hb hby d5_86)
  have J7 : ∀ t, Steps p.tables e below (T6.setTop (mkF m 89 #[.val (.ref a1), .val (.ref a2), .val (.ref a3), .val (.ref a4), .val (.double (4652007308841189376 : UInt64)), .second, .val (.int (1 : Int32)), .val (.ref a7), .val .null] [])) t → Steps p.tables e below (s₁.setTop (entryFrame m #[(.ref a1), (.ref a2), (.ref a3), (.ref a4), (.double (4652007308841189376 : UInt64)), (.int (1 : Int32)), (.ref a7), .null] 9)) t := fun t k => J5 t (st6 t k)
  have Z8 : n0 ≤ h6.size := Nat.le_trans Z0 (Keep.of_wr W6).1
  have KK9 : Keep h0 h6 [a1] := (Keep.refl h0 [a1]).wr W6 (Or.inl (List.mem_of_getElem? (i := 0) rfl))
  have N10 := Fr.snoc X6 N3 g_a1
  have Fw6 := F_id_a1.same W6
  have J11 : ∀ t, Steps p.tables e below (T6.setTop (mkF m 91 #[.val (.ref a1), .val (.ref a2), .val (.ref a3), .val (.ref a4), .val (.double (4652007308841189376 : UInt64)), .second, .val (.int (1 : Int32)), .val (.ref a7), .val .null] [(.ref a3), (.ref a1)])) t → Steps p.tables e below (s₁.setTop (entryFrame m #[(.ref a1), (.ref a2), (.ref a3), (.ref a4), (.double (4652007308841189376 : UInt64)), (.int (1 : Int32)), (.ref a7), .null] 9)) t := fun t k => J7 t (by
      show Steps p.tables e below (T6.setTop (mkF m 89 #[.val (.ref a1), .val (.ref a2), .val (.ref a3), .val (.ref a4), .val (.double (4652007308841189376 : UInt64)), .second, .val (.int (1 : Int32)), .val (.ref a7), .val .null] [])) _
      refine XS.aloadN X6.here hx rfl (hb hby d5_89) rfl rfl ?_
      show Steps p.tables e below (T6.setTop (mkF m 90 #[.val (.ref a1), .val (.ref a2), .val (.ref a3), .val (.ref a4), .val (.double (4652007308841189376 : UInt64)), .second, .val (.int (1 : Int32)), .val (.ref a7), .val .null] [(.ref a1)])) _
      refine XS.aloadN X6.here hx rfl (hb hby d5_90) rfl rfl ?_
      exact k)
  have f12 := F_from_a1.other W6 (Or.inr (slot_ne (Or.inr (hw _ (List.mem_of_getElem? (i := 55) rfl))) (Or.inr (hw _ (List.mem_of_getElem? (i := 53) rfl))) (by decide) (t := (.object "java/lang/String")) (t' := (.object "java/lang/String")) (by decide) (by decide)))
  have f13 := E_a1.wr W6
  obtain ⟨T14, h14, X14, e14, W14, st14⟩ := putF X6 hx hZ hown (host := "") (Or.inl (hw _ (List.mem_of_getElem? (i := 54) rfl))) Via.refl e6 f12 f13 (Or.inr ⟨(hw _ (List.mem_of_getElem? (i := 55) rfl)), rfl, hnm⟩) (hw _ (List.mem_of_getElem? (i := 41) rfl)) (ty := (.object "java/lang/String")) (by decide) rfl rfl (g := (mkF m 91 #[.val (.ref a1), .val (.ref a2), .val (.ref a3), .val (.ref a4), .val (.double (4652007308841189376 : UInt64)), .second, .val (.int (1 : Int32)), .val (.ref a7), .val .null] [(.ref a3), (.ref a1)])) rfl rfl (hb hby d5_91)
  have J15 : ∀ t, Steps p.tables e below (T14.setTop (mkF m 94 #[.val (.ref a1), .val (.ref a2), .val (.ref a3), .val (.ref a4), .val (.double (4652007308841189376 : UInt64)), .second, .val (.int (1 : Int32)), .val (.ref a7), .val .null] [])) t → Steps p.tables e below (s₁.setTop (entryFrame m #[(.ref a1), (.ref a2), (.ref a3), (.ref a4), (.double (4652007308841189376 : UInt64)), (.int (1 : Int32)), (.ref a7), .null] 9)) t := fun t k => J11 t (st14 t k)
  have Z16 : n0 ≤ h14.size := Nat.le_trans Z8 (Keep.of_wr W14).1
  have KK17 : Keep h0 h14 [a1] := KK9.wr W14 (Or.inl (List.mem_of_getElem? (i := 0) rfl))
  have N18 := Fr.snoc X14 N10 g_a1
  have Fw14 := f12.same W14
  have J19 : ∀ t, Steps p.tables e below (T14.setTop (mkF m 96 #[.val (.ref a1), .val (.ref a2), .val (.ref a3), .val (.ref a4), .val (.double (4652007308841189376 : UInt64)), .second, .val (.int (1 : Int32)), .val (.ref a7), .val .null] [(.ref a4), (.ref a1)])) t → Steps p.tables e below (s₁.setTop (entryFrame m #[(.ref a1), (.ref a2), (.ref a3), (.ref a4), (.double (4652007308841189376 : UInt64)), (.int (1 : Int32)), (.ref a7), .null] 9)) t := fun t k => J15 t (by
      show Steps p.tables e below (T14.setTop (mkF m 94 #[.val (.ref a1), .val (.ref a2), .val (.ref a3), .val (.ref a4), .val (.double (4652007308841189376 : UInt64)), .second, .val (.int (1 : Int32)), .val (.ref a7), .val .null] [])) _
      refine XS.aloadN X14.here hx rfl (hb hby d5_94) rfl rfl ?_
      show Steps p.tables e below (T14.setTop (mkF m 95 #[.val (.ref a1), .val (.ref a2), .val (.ref a3), .val (.ref a4), .val (.double (4652007308841189376 : UInt64)), .second, .val (.int (1 : Int32)), .val (.ref a7), .val .null] [(.ref a1)])) _
      refine XS.aloadN X14.here hx rfl (hb hby d5_95) rfl rfl ?_
      exact k)
  have f20 := F_to_a1.other W6 (Or.inr (slot_ne (Or.inr (hw _ (List.mem_of_getElem? (i := 57) rfl))) (Or.inr (hw _ (List.mem_of_getElem? (i := 53) rfl))) (by decide) (t := (.object "java/lang/String")) (t' := (.object "java/lang/String")) (by decide) (by decide)))
  have f21 := f20.other W14 (Or.inr (slot_ne (Or.inr (hw _ (List.mem_of_getElem? (i := 57) rfl))) (Or.inr (hw _ (List.mem_of_getElem? (i := 55) rfl))) (by decide) (t := (.object "java/lang/String")) (t' := (.object "java/lang/String")) (by decide) (by decide)))
  have f22 := f13.wr W14
  obtain ⟨T23, h23, X23, e23, W23, st23⟩ := putF X14 hx hZ hown (host := "") (Or.inl (hw _ (List.mem_of_getElem? (i := 56) rfl))) Via.refl e14 f21 f22 (Or.inr ⟨(hw _ (List.mem_of_getElem? (i := 57) rfl)), rfl, hnm⟩) (hw _ (List.mem_of_getElem? (i := 41) rfl)) (ty := (.object "java/lang/String")) (by decide) rfl rfl (g := (mkF m 96 #[.val (.ref a1), .val (.ref a2), .val (.ref a3), .val (.ref a4), .val (.double (4652007308841189376 : UInt64)), .second, .val (.int (1 : Int32)), .val (.ref a7), .val .null] [(.ref a4), (.ref a1)])) rfl rfl (hb hby d5_96)
  have J24 : ∀ t, Steps p.tables e below (T23.setTop (mkF m 99 #[.val (.ref a1), .val (.ref a2), .val (.ref a3), .val (.ref a4), .val (.double (4652007308841189376 : UInt64)), .second, .val (.int (1 : Int32)), .val (.ref a7), .val .null] [])) t → Steps p.tables e below (s₁.setTop (entryFrame m #[(.ref a1), (.ref a2), (.ref a3), (.ref a4), (.double (4652007308841189376 : UInt64)), (.int (1 : Int32)), (.ref a7), .null] 9)) t := fun t k => J19 t (st23 t k)
  have Z25 : n0 ≤ h23.size := Nat.le_trans Z16 (Keep.of_wr W23).1
  have KK26 : Keep h0 h23 [a1] := KK17.wr W23 (Or.inl (List.mem_of_getElem? (i := 0) rfl))
  have N27 := Fr.snoc X23 N18 g_a1
  have Fw23 := f21.same W23
  have J28 : ∀ t, Steps p.tables e below (T23.setTop (mkF m 102 #[.val (.ref a1), .val (.ref a2), .val (.ref a3), .val (.ref a4), .val (.double (4652007308841189376 : UInt64)), .second, .val (.int (1 : Int32)), .val (.ref a7), .val .null] [(.double (4652007308841189376 : UInt64)), (.ref a1)])) t → Steps p.tables e below (s₁.setTop (entryFrame m #[(.ref a1), (.ref a2), (.ref a3), (.ref a4), (.double (4652007308841189376 : UInt64)), (.int (1 : Int32)), (.ref a7), .null] 9)) t := fun t k => J24 t (by
      show Steps p.tables e below (T23.setTop (mkF m 99 #[.val (.ref a1), .val (.ref a2), .val (.ref a3), .val (.ref a4), .val (.double (4652007308841189376 : UInt64)), .second, .val (.int (1 : Int32)), .val (.ref a7), .val .null] [])) _
      refine XS.aloadN X23.here hx rfl (hb hby d5_99) rfl rfl ?_
      show Steps p.tables e below (T23.setTop (mkF m 100 #[.val (.ref a1), .val (.ref a2), .val (.ref a3), .val (.ref a4), .val (.double (4652007308841189376 : UInt64)), .second, .val (.int (1 : Int32)), .val (.ref a7), .val .null] [(.ref a1)])) _
      refine XS.dload X23.here hx rfl (hb hby d5_100) rfl ?_
      exact k)
  have f29 := F_length_a1.other W6 (Or.inr (slot_ne (Or.inr (hw _ (List.mem_of_getElem? (i := 59) rfl))) (Or.inr (hw _ (List.mem_of_getElem? (i := 53) rfl))) (by decide) (t := .double) (t' := (.object "java/lang/String")) (by decide) (by decide)))
  have f30 := f29.other W14 (Or.inr (slot_ne (Or.inr (hw _ (List.mem_of_getElem? (i := 59) rfl))) (Or.inr (hw _ (List.mem_of_getElem? (i := 55) rfl))) (by decide) (t := .double) (t' := (.object "java/lang/String")) (by decide) (by decide)))
  have f31 := f30.other W23 (Or.inr (slot_ne (Or.inr (hw _ (List.mem_of_getElem? (i := 59) rfl))) (Or.inr (hw _ (List.mem_of_getElem? (i := 57) rfl))) (by decide) (t := .double) (t' := (.object "java/lang/String")) (by decide) (by decide)))
  have f32 := f22.wr W23
  obtain ⟨T33, h33, X33, e33, W33, st33⟩ := putF X23 hx hZ hown (host := "") (Or.inl (hw _ (List.mem_of_getElem? (i := 58) rfl))) Via.refl e23 f31 f32 (Or.inr ⟨(hw _ (List.mem_of_getElem? (i := 59) rfl)), rfl, hnm⟩) (hw _ (List.mem_of_getElem? (i := 41) rfl)) (ty := .double) (by decide) rfl rfl (g := (mkF m 102 #[.val (.ref a1), .val (.ref a2), .val (.ref a3), .val (.ref a4), .val (.double (4652007308841189376 : UInt64)), .second, .val (.int (1 : Int32)), .val (.ref a7), .val .null] [(.double (4652007308841189376 : UInt64)), (.ref a1)])) rfl rfl (hb hby d5_102)
  have J34 : ∀ t, Steps p.tables e below (T33.setTop (mkF m 105 #[.val (.ref a1), .val (.ref a2), .val (.ref a3), .val (.ref a4), .val (.double (4652007308841189376 : UInt64)), .second, .val (.int (1 : Int32)), .val (.ref a7), .val .null] [])) t → Steps p.tables e below (s₁.setTop (entryFrame m #[(.ref a1), (.ref a2), (.ref a3), (.ref a4), (.double (4652007308841189376 : UInt64)), (.int (1 : Int32)), (.ref a7), .null] 9)) t := fun t k => J28 t (st33 t k)
  have Z35 : n0 ≤ h33.size := Nat.le_trans Z25 (Keep.of_wr W33).1
  have KK36 : Keep h0 h33 [a1] := KK26.wr W33 (Or.inl (List.mem_of_getElem? (i := 0) rfl))
  have N37 := Fr.snoc X33 N27 g_a1
  have Fw33 := f31.same W33
  have J38 : ∀ t, Steps p.tables e below (T33.setTop (mkF m 108 #[.val (.ref a1), .val (.ref a2), .val (.ref a3), .val (.ref a4), .val (.double (4652007308841189376 : UInt64)), .second, .val (.int (1 : Int32)), .val (.ref a7), .val .null] [(.int (1 : Int32)), (.ref a1)])) t → Steps p.tables e below (s₁.setTop (entryFrame m #[(.ref a1), (.ref a2), (.ref a3), (.ref a4), (.double (4652007308841189376 : UInt64)), (.int (1 : Int32)), (.ref a7), .null] 9)) t := fun t k => J34 t (by
      show Steps p.tables e below (T33.setTop (mkF m 105 #[.val (.ref a1), .val (.ref a2), .val (.ref a3), .val (.ref a4), .val (.double (4652007308841189376 : UInt64)), .second, .val (.int (1 : Int32)), .val (.ref a7), .val .null] [])) _
      refine XS.aloadN X33.here hx rfl (hb hby d5_105) rfl rfl ?_
      show Steps p.tables e below (T33.setTop (mkF m 106 #[.val (.ref a1), .val (.ref a2), .val (.ref a3), .val (.ref a4), .val (.double (4652007308841189376 : UInt64)), .second, .val (.int (1 : Int32)), .val (.ref a7), .val .null] [(.ref a1)])) _
      refine XS.iload X33.here hx rfl (hb hby d5_106) rfl ?_
      exact k)
  have f39 := F_lanes_a1.other W6 (Or.inr (slot_ne (Or.inr (hw _ (List.mem_of_getElem? (i := 61) rfl))) (Or.inr (hw _ (List.mem_of_getElem? (i := 53) rfl))) (by decide) (t := .int) (t' := (.object "java/lang/String")) (by decide) (by decide)))
  have f40 := f39.other W14 (Or.inr (slot_ne (Or.inr (hw _ (List.mem_of_getElem? (i := 61) rfl))) (Or.inr (hw _ (List.mem_of_getElem? (i := 55) rfl))) (by decide) (t := .int) (t' := (.object "java/lang/String")) (by decide) (by decide)))
  have f41 := f40.other W23 (Or.inr (slot_ne (Or.inr (hw _ (List.mem_of_getElem? (i := 61) rfl))) (Or.inr (hw _ (List.mem_of_getElem? (i := 57) rfl))) (by decide) (t := .int) (t' := (.object "java/lang/String")) (by decide) (by decide)))
  have f42 := f41.other W33 (Or.inr (slot_ne (Or.inr (hw _ (List.mem_of_getElem? (i := 61) rfl))) (Or.inr (hw _ (List.mem_of_getElem? (i := 59) rfl))) (by decide) (t := .int) (t' := .double) (by decide) (by decide)))
  have f43 := f32.wr W33
  obtain ⟨T44, h44, X44, e44, W44, st44⟩ := putF X33 hx hZ hown (host := "") (Or.inl (hw _ (List.mem_of_getElem? (i := 60) rfl))) Via.refl e33 f42 f43 (Or.inr ⟨(hw _ (List.mem_of_getElem? (i := 61) rfl)), rfl, hnm⟩) (hw _ (List.mem_of_getElem? (i := 41) rfl)) (ty := .int) (by decide) rfl rfl (g := (mkF m 108 #[.val (.ref a1), .val (.ref a2), .val (.ref a3), .val (.ref a4), .val (.double (4652007308841189376 : UInt64)), .second, .val (.int (1 : Int32)), .val (.ref a7), .val .null] [(.int (1 : Int32)), (.ref a1)])) rfl rfl (hb hby d5_108)
  have J45 : ∀ t, Steps p.tables e below (T44.setTop (mkF m 111 #[.val (.ref a1), .val (.ref a2), .val (.ref a3), .val (.ref a4), .val (.double (4652007308841189376 : UInt64)), .second, .val (.int (1 : Int32)), .val (.ref a7), .val .null] [])) t → Steps p.tables e below (s₁.setTop (entryFrame m #[(.ref a1), (.ref a2), (.ref a3), (.ref a4), (.double (4652007308841189376 : UInt64)), (.int (1 : Int32)), (.ref a7), .null] 9)) t := fun t k => J38 t (st44 t k)
  have Z46 : n0 ≤ h44.size := Nat.le_trans Z35 (Keep.of_wr W44).1
  have KK47 : Keep h0 h44 [a1] := KK36.wr W44 (Or.inl (List.mem_of_getElem? (i := 0) rfl))
  have N48 := Fr.snoc X44 N37 g_a1
  have Fw44 := f42.same W44
  have J49 : ∀ t, Steps p.tables e below (T44.setTop (mkF m 114 #[.val (.ref a1), .val (.ref a2), .val (.ref a3), .val (.ref a4), .val (.double (4652007308841189376 : UInt64)), .second, .val (.int (1 : Int32)), .val (.ref a7), .val .null] [(.ref a7), (.ref a1)])) t → Steps p.tables e below (s₁.setTop (entryFrame m #[(.ref a1), (.ref a2), (.ref a3), (.ref a4), (.double (4652007308841189376 : UInt64)), (.int (1 : Int32)), (.ref a7), .null] 9)) t := fun t k => J45 t (by
      show Steps p.tables e below (T44.setTop (mkF m 111 #[.val (.ref a1), .val (.ref a2), .val (.ref a3), .val (.ref a4), .val (.double (4652007308841189376 : UInt64)), .second, .val (.int (1 : Int32)), .val (.ref a7), .val .null] [])) _
      refine XS.aloadN X44.here hx rfl (hb hby d5_111) rfl rfl ?_
      show Steps p.tables e below (T44.setTop (mkF m 112 #[.val (.ref a1), .val (.ref a2), .val (.ref a3), .val (.ref a4), .val (.double (4652007308841189376 : UInt64)), .second, .val (.int (1 : Int32)), .val (.ref a7), .val .null] [(.ref a1)])) _
      refine XS.aload X44.here hx rfl (hb hby d5_112) rfl rfl ?_
      exact k)
  have f50 := F_road_a1.other W6 (Or.inr (slot_ne (Or.inr (hw _ (List.mem_of_getElem? (i := 63) rfl))) (Or.inr (hw _ (List.mem_of_getElem? (i := 53) rfl))) (by decide) (t := (.object "com/example/graded_flow/gradedflow/network/TriangularDiagram")) (t' := (.object "java/lang/String")) (by decide) (by decide)))
  have f51 := f50.other W14 (Or.inr (slot_ne (Or.inr (hw _ (List.mem_of_getElem? (i := 63) rfl))) (Or.inr (hw _ (List.mem_of_getElem? (i := 55) rfl))) (by decide) (t := (.object "com/example/graded_flow/gradedflow/network/TriangularDiagram")) (t' := (.object "java/lang/String")) (by decide) (by decide)))
  have f52 := f51.other W23 (Or.inr (slot_ne (Or.inr (hw _ (List.mem_of_getElem? (i := 63) rfl))) (Or.inr (hw _ (List.mem_of_getElem? (i := 57) rfl))) (by decide) (t := (.object "com/example/graded_flow/gradedflow/network/TriangularDiagram")) (t' := (.object "java/lang/String")) (by decide) (by decide)))
  have f53 := f52.other W33 (Or.inr (slot_ne (Or.inr (hw _ (List.mem_of_getElem? (i := 63) rfl))) (Or.inr (hw _ (List.mem_of_getElem? (i := 59) rfl))) (by decide) (t := (.object "com/example/graded_flow/gradedflow/network/TriangularDiagram")) (t' := .double) (by decide) (by decide)))
  have f54 := f53.other W44 (Or.inr (slot_ne (Or.inr (hw _ (List.mem_of_getElem? (i := 63) rfl))) (Or.inr (hw _ (List.mem_of_getElem? (i := 61) rfl))) (by decide) (t := (.object "com/example/graded_flow/gradedflow/network/TriangularDiagram")) (t' := .int) (by decide) (by decide)))
  have f55 := f43.wr W44
  obtain ⟨T56, h56, X56, e56, W56, st56⟩ := putF X44 hx hZ hown (host := "") (Or.inl (hw _ (List.mem_of_getElem? (i := 62) rfl))) Via.refl e44 f54 f55 (Or.inr ⟨(hw _ (List.mem_of_getElem? (i := 63) rfl)), rfl, hnm⟩) (hw _ (List.mem_of_getElem? (i := 41) rfl)) (ty := (.object "com/example/graded_flow/gradedflow/network/TriangularDiagram")) (by decide) rfl rfl (g := (mkF m 114 #[.val (.ref a1), .val (.ref a2), .val (.ref a3), .val (.ref a4), .val (.double (4652007308841189376 : UInt64)), .second, .val (.int (1 : Int32)), .val (.ref a7), .val .null] [(.ref a7), (.ref a1)])) rfl rfl (hb hby d5_114)
  have J57 : ∀ t, Steps p.tables e below (T56.setTop (mkF m 117 #[.val (.ref a1), .val (.ref a2), .val (.ref a3), .val (.ref a4), .val (.double (4652007308841189376 : UInt64)), .second, .val (.int (1 : Int32)), .val (.ref a7), .val .null] [])) t → Steps p.tables e below (s₁.setTop (entryFrame m #[(.ref a1), (.ref a2), (.ref a3), (.ref a4), (.double (4652007308841189376 : UInt64)), (.int (1 : Int32)), (.ref a7), .null] 9)) t := fun t k => J49 t (st56 t k)
  have Z58 : n0 ≤ h56.size := Nat.le_trans Z46 (Keep.of_wr W56).1
  have KK59 : Keep h0 h56 [a1] := KK47.wr W56 (Or.inl (List.mem_of_getElem? (i := 0) rfl))
  have N60 := Fr.snoc X56 N48 g_a1
  have Fw56 := f54.same W56
  have J61 : ∀ t, Steps p.tables e below (T56.setTop (mkF m 120 #[.val (.ref a1), .val (.ref a2), .val (.ref a3), .val (.ref a4), .val (.double (4652007308841189376 : UInt64)), .second, .val (.int (1 : Int32)), .val (.ref a7), .val .null] [.null, (.ref a1)])) t → Steps p.tables e below (s₁.setTop (entryFrame m #[(.ref a1), (.ref a2), (.ref a3), (.ref a4), (.double (4652007308841189376 : UInt64)), (.int (1 : Int32)), (.ref a7), .null] 9)) t := fun t k => J57 t (by
      show Steps p.tables e below (T56.setTop (mkF m 117 #[.val (.ref a1), .val (.ref a2), .val (.ref a3), .val (.ref a4), .val (.double (4652007308841189376 : UInt64)), .second, .val (.int (1 : Int32)), .val (.ref a7), .val .null] [])) _
      refine XS.aloadN X56.here hx rfl (hb hby d5_117) rfl rfl ?_
      show Steps p.tables e below (T56.setTop (mkF m 118 #[.val (.ref a1), .val (.ref a2), .val (.ref a3), .val (.ref a4), .val (.double (4652007308841189376 : UInt64)), .second, .val (.int (1 : Int32)), .val (.ref a7), .val .null] [(.ref a1)])) _
      refine XS.aload X56.here hx rfl (hb hby d5_118) rfl rfl ?_
      exact k)
  have f62 := F_model_a1.other W6 (Or.inr (slot_ne (Or.inr (hw _ (List.mem_of_getElem? (i := 65) rfl))) (Or.inr (hw _ (List.mem_of_getElem? (i := 53) rfl))) (by decide) (t := (.object "com/example/graded_flow/gradedflow/network/LinkModel")) (t' := (.object "java/lang/String")) (by decide) (by decide)))
  have f63 := f62.other W14 (Or.inr (slot_ne (Or.inr (hw _ (List.mem_of_getElem? (i := 65) rfl))) (Or.inr (hw _ (List.mem_of_getElem? (i := 55) rfl))) (by decide) (t := (.object "com/example/graded_flow/gradedflow/network/LinkModel")) (t' := (.object "java/lang/String")) (by decide) (by decide)))
  have f64 := f63.other W23 (Or.inr (slot_ne (Or.inr (hw _ (List.mem_of_getElem? (i := 65) rfl))) (Or.inr (hw _ (List.mem_of_getElem? (i := 57) rfl))) (by decide) (t := (.object "com/example/graded_flow/gradedflow/network/LinkModel")) (t' := (.object "java/lang/String")) (by decide) (by decide)))
  have f65 := f64.other W33 (Or.inr (slot_ne (Or.inr (hw _ (List.mem_of_getElem? (i := 65) rfl))) (Or.inr (hw _ (List.mem_of_getElem? (i := 59) rfl))) (by decide) (t := (.object "com/example/graded_flow/gradedflow/network/LinkModel")) (t' := .double) (by decide) (by decide)))
  have f66 := f65.other W44 (Or.inr (slot_ne (Or.inr (hw _ (List.mem_of_getElem? (i := 65) rfl))) (Or.inr (hw _ (List.mem_of_getElem? (i := 61) rfl))) (by decide) (t := (.object "com/example/graded_flow/gradedflow/network/LinkModel")) (t' := .int) (by decide) (by decide)))
  have f67 := f66.other W56 (Or.inr (slot_ne (Or.inr (hw _ (List.mem_of_getElem? (i := 65) rfl))) (Or.inr (hw _ (List.mem_of_getElem? (i := 63) rfl))) (by decide) (t := (.object "com/example/graded_flow/gradedflow/network/LinkModel")) (t' := (.object "com/example/graded_flow/gradedflow/network/TriangularDiagram")) (by decide) (by decide)))
  have f68 := f55.wr W56
  obtain ⟨T69, h69, X69, e69, W69, st69⟩ := putF X56 hx hZ hown (host := "") (Or.inl (hw _ (List.mem_of_getElem? (i := 64) rfl))) Via.refl e56 f67 f68 (Or.inr ⟨(hw _ (List.mem_of_getElem? (i := 65) rfl)), rfl, hnm⟩) (hw _ (List.mem_of_getElem? (i := 41) rfl)) (ty := (.object "com/example/graded_flow/gradedflow/network/LinkModel")) (by decide) rfl rfl (g := (mkF m 120 #[.val (.ref a1), .val (.ref a2), .val (.ref a3), .val (.ref a4), .val (.double (4652007308841189376 : UInt64)), .second, .val (.int (1 : Int32)), .val (.ref a7), .val .null] [.null, (.ref a1)])) rfl rfl (hb hby d5_120)
  have J70 : ∀ t, Steps p.tables e below (T69.setTop (mkF m 123 #[.val (.ref a1), .val (.ref a2), .val (.ref a3), .val (.ref a4), .val (.double (4652007308841189376 : UInt64)), .second, .val (.int (1 : Int32)), .val (.ref a7), .val .null] [])) t → Steps p.tables e below (s₁.setTop (entryFrame m #[(.ref a1), (.ref a2), (.ref a3), (.ref a4), (.double (4652007308841189376 : UInt64)), (.int (1 : Int32)), (.ref a7), .null] 9)) t := fun t k => J61 t (st69 t k)
  have Z71 : n0 ≤ h69.size := Nat.le_trans Z58 (Keep.of_wr W69).1
  have KK72 : Keep h0 h69 [a1] := KK59.wr W69 (Or.inl (List.mem_of_getElem? (i := 0) rfl))
  have N73 := Fr.snoc X69 N60 g_a1
  have Fw69 := f67.same W69
  obtain ⟨fs, hr, hrun, hended, hW, hsame⟩ := X69.leave (v := none) (fun _ => rfl)
  have f74 := f68.wr W69
  have f75 := Fw44.other W56 (Or.inr (slot_ne (Or.inr (hw _ (List.mem_of_getElem? (i := 61) rfl))) (Or.inr (hw _ (List.mem_of_getElem? (i := 63) rfl))) (by decide) (t := .int) (t' := (.object "com/example/graded_flow/gradedflow/network/TriangularDiagram")) (by decide) (by decide)))
  have f76 := f75.other W69 (Or.inr (slot_ne (Or.inr (hw _ (List.mem_of_getElem? (i := 61) rfl))) (Or.inr (hw _ (List.mem_of_getElem? (i := 65) rfl))) (by decide) (t := .int) (t' := (.object "com/example/graded_flow/gradedflow/network/LinkModel")) (by decide) (by decide)))
  have f77 := Fw56.other W69 (Or.inr (slot_ne (Or.inr (hw _ (List.mem_of_getElem? (i := 63) rfl))) (Or.inr (hw _ (List.mem_of_getElem? (i := 65) rfl))) (by decide) (t := (.object "com/example/graded_flow/gradedflow/network/TriangularDiagram")) (t' := (.object "com/example/graded_flow/gradedflow/network/LinkModel")) (by decide) (by decide)))
  refine ⟨_, _, J70 _ ?_, hrun, hended, _, _, rfl, ?_, ⟨_, rfl⟩, hW, hsame.mono (by decide) (by decide)⟩
  · show Steps p.tables e below (T69.setTop (mkF m 123 #[.val (.ref a1), .val (.ref a2), .val (.ref a3), .val (.ref a4), .val (.double (4652007308841189376 : UInt64)), .second, .val (.int (1 : Int32)), .val (.ref a7), .val .null] [])) _
    exact X69.returnOut hx Bd.returns (hb hby d5_123) hr
  · show Q5 Z a1 a2 a3 a4 a7 u0 u1 u2 u3 u4 u5 u6 h0 n0 _ T69.heap _
    rw [e69]
    exact ⟨rfl, N73, KK72, f74, f76, f77⟩
theorem d10_0 : decode prog_25_method_11_code 0 = .ok (.aload_n 0, 1) := by decide +kernel
theorem d10_1 : decode prog_25_method_11_code 1 = .ok (.getfield 53, 3) := by decide +kernel
theorem d10_4 : decode prog_25_method_11_code 4 = .ok (.ireturn, 1) := by decide +kernel
theorem pn_10 : plainName "com/example/graded_flow/gradedflow/network/Link" = true := by first | (simp [plainName, overriddenIn]; done) | decide +kernel
theorem ef_10_x (m : MethodId) (x0 : Addr) : entryFrame m #[(.ref x0)] 1 = mkF m 0 #[.val (.ref x0)] [] := by first | (simp [entryFrame, mkF, argsToLocals, Value.category]; done) | rfl
def Q10 (Z : State) (a1 : Addr) (w : Int32) (h0 : Heap) (n0 : Nat) (v : Option Value) (h : Heap) (L : List Loc) : Prop := v = some (.int w) ∧ Fr n0 L ∧ h = h0
set_option maxRecDepth 65536 in
set_option maxHeartbeats 40000000 in
theorem rm10 (l : Launch) (Z : State) (a0 : Array Value) (hw : ∀ d ∈ tables_1, d.before a0 Z = true) (ws : List Jvm.Cond) (a1 : Addr) (w : Int32) (h0 : Heap) (n0 : Nat) (Z0 : n0 ≤ h0.size) (F_lanes_a1 : Fld Z h0 a1 "com/example/graded_flow/gradedflow/network/Link" "lanes" "I" (.int w)) :
    MetFree l (⟨"com/example/graded_flow/gradedflow/network/Link", "lanes", "()I"⟩ : MethodName) (head1 (Jvm.Cond.code (⟨"com/example/graded_flow/gradedflow/network/Link", "lanes", "()I"⟩ : MethodName) prog_25_method_11_code 1 (some .int) :: ws) ({ frames := 0, cells := 0, slots := 0, locals := 0 } : Room)) (fun a U => a = #[(.ref a1)] ∧ Z.Warmed39 U.vm ∧ U.heap = h0) (fun _ _ _ _ _ => True) (fun _ U o U' => ∃ v L, o = .returned v ∧ Q10 Z a1 w h0 n0 v U'.heap L ∧ FrameEnd U o U' L ({ frames := 0, cells := 0, slots := 0, locals := 0 } : Room).cells ({ frames := 0, cells := 0, slots := 0, locals := 0 } : Room).slots) := by
  refine MetFree.of_bodySF (plainFor_of_name pn_10) hisR ?_
  intro p e s m args below meth c s₁ Bd hml0 hP hK
  obtain ⟨rfl, hZ, hh⟩ := hP
  have hx := Bd.exec
  have hby := Bd.bytes
  have hml : c.maxLocals = 1 := hml0
  have hown : s.vm.findClass "com/example/graded_flow/gradedflow/network/Link" = some m.cls := findClass_of_methodNamed Bd.named
  have hnm := (name_of_methodNamed Bd.named Bd.method).1
  have X0 : Stand p l e ({ frames := 0, cells := 0, slots := 0, locals := 0 } : Room) s m #[(.ref a1)] below meth c s₁ [] 0 0 := Stand.of_body Bd
  have e0 : s₁.heap = h0 := by rw [← hh, Bd.state]; rfl
  have N0 := Fr.nil n0
  have pre0 : ∀ t, Steps p.tables e below (s₁.setTop (mkF m 0 #[.val (.ref a1)] [])) t → Steps p.tables e below (s₁.setTop (entryFrame m #[(.ref a1)] 1)) t := fun t k => castTop (ef_10_x m a1) k
  have J1 : ∀ t, Steps p.tables e below (s₁.setTop (mkF m 1 #[.val (.ref a1)] [(.ref a1)])) t → Steps p.tables e below (s₁.setTop (entryFrame m #[(.ref a1)] 1)) t := fun t k => pre0 t (by
      show Steps p.tables e below (s₁.setTop (mkF m 0 #[.val (.ref a1)] [])) _
      refine XS.aloadN X0.here hx rfl (hb hby d10_0) rfl rfl ?_
      exact k)
  obtain ⟨T2, X2, e2, st2⟩ := getF X0 hx hZ hown (host := "") (Or.inl (hw _ (List.mem_of_getElem? (i := 60) rfl))) Via.refl e0 F_lanes_a1 (g := (mkF m 1 #[.val (.ref a1)] [(.ref a1)])) rfl rfl (hb hby d10_1)
  have J3 : ∀ t, Steps p.tables e below (T2.setTop (mkF m 4 #[.val (.ref a1)] [(.int w)])) t → Steps p.tables e below (s₁.setTop (entryFrame m #[(.ref a1)] 1)) t := fun t k => J1 t (st2 t k)
  obtain ⟨fs, hr, hrun, hended, hW, hsame⟩ := X2.leave (v := some (.int w)) (fun h => by rw [Bd.returns] at h; cases h)
  refine ⟨_, _, J3 _ ?_, hrun, hended, _, _, rfl, ?_, ⟨_, rfl⟩, hW, hsame.mono (by decide) (by decide)⟩
  · show Steps p.tables e below (T2.setTop (mkF m 4 #[.val (.ref a1)] [(.int w)])) _
    exact retI X2 hx Bd.returns (hb hby d10_4) hr
  · show Q10 Z a1 w h0 n0 _ T2.heap _
    rw [e2]
    exact ⟨rfl, N0, rfl⟩
theorem d19_0 : decode prog_25_method_12_code 0 = .ok (.aload_n 0, 1) := by decide +kernel
theorem d19_1 : decode prog_25_method_12_code 1 = .ok (.getfield 57, 3) := by decide +kernel
theorem d19_4 : decode prog_25_method_12_code 4 = .ok (.areturn, 1) := by decide +kernel
theorem pn_19 : plainName "com/example/graded_flow/gradedflow/network/Link" = true := by first | (simp [plainName, overriddenIn]; done) | decide +kernel
theorem ef_19_x (m : MethodId) (x0 : Addr) : entryFrame m #[(.ref x0)] 1 = mkF m 0 #[.val (.ref x0)] [] := by first | (simp [entryFrame, mkF, argsToLocals, Value.category]; done) | rfl
def Q19 (Z : State) (a1 : Addr) (r : Addr) (h0 : Heap) (n0 : Nat) (v : Option Value) (h : Heap) (L : List Loc) : Prop := v = some (.ref r) ∧ Fr n0 L ∧ h = h0
set_option maxRecDepth 65536 in
set_option maxHeartbeats 40000000 in
theorem rm19 (l : Launch) (Z : State) (a0 : Array Value) (hw : ∀ d ∈ tables_1, d.before a0 Z = true) (ws : List Jvm.Cond) (a1 : Addr) (r : Addr) (h0 : Heap) (n0 : Nat) (Z0 : n0 ≤ h0.size) (F_road_a1 : Fld Z h0 a1 "com/example/graded_flow/gradedflow/network/Link" "road" "Lcom/example/graded_flow/gradedflow/network/TriangularDiagram;" (.ref r)) :
    MetFree l (⟨"com/example/graded_flow/gradedflow/network/Link", "road", "()Lcom/example/graded_flow/gradedflow/network/TriangularDiagram;"⟩ : MethodName) (head1 (Jvm.Cond.code (⟨"com/example/graded_flow/gradedflow/network/Link", "road", "()Lcom/example/graded_flow/gradedflow/network/TriangularDiagram;"⟩ : MethodName) prog_25_method_12_code 1 (some (.object "com/example/graded_flow/gradedflow/network/TriangularDiagram")) :: ws) ({ frames := 0, cells := 0, slots := 0, locals := 0 } : Room)) (fun a U => a = #[(.ref a1)] ∧ Z.Warmed39 U.vm ∧ U.heap = h0) (fun _ _ _ _ _ => True) (fun _ U o U' => ∃ v L, o = .returned v ∧ Q19 Z a1 r h0 n0 v U'.heap L ∧ FrameEnd U o U' L ({ frames := 0, cells := 0, slots := 0, locals := 0 } : Room).cells ({ frames := 0, cells := 0, slots := 0, locals := 0 } : Room).slots) := by
  refine MetFree.of_bodySF (plainFor_of_name pn_19) hisR ?_
  intro p e s m args below meth c s₁ Bd hml0 hP hK
  obtain ⟨rfl, hZ, hh⟩ := hP
  have hx := Bd.exec
  have hby := Bd.bytes
  have hml : c.maxLocals = 1 := hml0
  have hown : s.vm.findClass "com/example/graded_flow/gradedflow/network/Link" = some m.cls := findClass_of_methodNamed Bd.named
  have hnm := (name_of_methodNamed Bd.named Bd.method).1
  have X0 : Stand p l e ({ frames := 0, cells := 0, slots := 0, locals := 0 } : Room) s m #[(.ref a1)] below meth c s₁ [] 0 0 := Stand.of_body Bd
  have e0 : s₁.heap = h0 := by rw [← hh, Bd.state]; rfl
  have N0 := Fr.nil n0
  have pre0 : ∀ t, Steps p.tables e below (s₁.setTop (mkF m 0 #[.val (.ref a1)] [])) t → Steps p.tables e below (s₁.setTop (entryFrame m #[(.ref a1)] 1)) t := fun t k => castTop (ef_19_x m a1) k
  have J1 : ∀ t, Steps p.tables e below (s₁.setTop (mkF m 1 #[.val (.ref a1)] [(.ref a1)])) t → Steps p.tables e below (s₁.setTop (entryFrame m #[(.ref a1)] 1)) t := fun t k => pre0 t (by
      show Steps p.tables e below (s₁.setTop (mkF m 0 #[.val (.ref a1)] [])) _
      refine XS.aloadN X0.here hx rfl (hb hby d19_0) rfl rfl ?_
      exact k)
  obtain ⟨T2, X2, e2, st2⟩ := getF X0 hx hZ hown (host := "") (Or.inl (hw _ (List.mem_of_getElem? (i := 62) rfl))) Via.refl e0 F_road_a1 (g := (mkF m 1 #[.val (.ref a1)] [(.ref a1)])) rfl rfl (hb hby d19_1)
  have J3 : ∀ t, Steps p.tables e below (T2.setTop (mkF m 4 #[.val (.ref a1)] [(.ref r)])) t → Steps p.tables e below (s₁.setTop (entryFrame m #[(.ref a1)] 1)) t := fun t k => J1 t (st2 t k)
  obtain ⟨fs, hr, hrun, hended, hW, hsame⟩ := X2.leave (v := some (.ref r)) (fun h => by rw [Bd.returns] at h; cases h)
  refine ⟨_, _, J3 _ ?_, hrun, hended, _, _, rfl, ?_, ⟨_, rfl⟩, hW, hsame.mono (by decide) (by decide)⟩
  · show Steps p.tables e below (T2.setTop (mkF m 4 #[.val (.ref a1)] [(.ref r)])) _
    jvm_step X2.here [X2.here.top, hx, (hb hby d19_4), X2.method', Bd.returns, Value.isRef, FieldType.isReference]
    first | (intro acts; rw [hr _ acts rfl rfl rfl]) | rw [hr _ _ rfl rfl rfl]
    exact Steps.refl _
  · show Q19 Z a1 r h0 n0 _ T2.heap _
    rw [e2]
    exact ⟨rfl, N0, rfl⟩
theorem d20_0 : decode prog_30_method_14_code 0 = .ok (.aload_n 0, 1) := by decide +kernel
theorem d20_1 : decode prog_30_method_14_code 1 = .ok (.getfield 49, 3) := by decide +kernel
theorem d20_4 : decode prog_30_method_14_code 4 = .ok (.dreturn, 1) := by decide +kernel
theorem pn_20 : plainName "com/example/graded_flow/gradedflow/network/TriangularDiagram" = true := by first | (simp [plainName, overriddenIn]; done) | decide +kernel
theorem ef_20_x (m : MethodId) (x0 : Addr) : entryFrame m #[(.ref x0)] 1 = mkF m 0 #[.val (.ref x0)] [] := by first | (simp [entryFrame, mkF, argsToLocals, Value.category]; done) | rfl
def Q20 (Z : State) (a1 : Addr) (d : UInt64) (h0 : Heap) (n0 : Nat) (v : Option Value) (h : Heap) (L : List Loc) : Prop := v = some (.double d) ∧ Fr n0 L ∧ h = h0
set_option maxRecDepth 65536 in
set_option maxHeartbeats 40000000 in
theorem rm20 (l : Launch) (Z : State) (a0 : Array Value) (hw : ∀ d ∈ tables_1, d.before a0 Z = true) (ws : List Jvm.Cond) (a1 : Addr) (d : UInt64) (h0 : Heap) (n0 : Nat) (Z0 : n0 ≤ h0.size) (F_freeSpeed_a1 : Fld Z h0 a1 "com/example/graded_flow/gradedflow/network/TriangularDiagram" "freeSpeed" "D" (.double d)) :
    MetFree l (⟨"com/example/graded_flow/gradedflow/network/TriangularDiagram", "freeSpeed", "()D"⟩ : MethodName) (head1 (Jvm.Cond.code (⟨"com/example/graded_flow/gradedflow/network/TriangularDiagram", "freeSpeed", "()D"⟩ : MethodName) prog_30_method_14_code 1 (some .double) :: ws) ({ frames := 0, cells := 0, slots := 0, locals := 0 } : Room)) (fun a U => a = #[(.ref a1)] ∧ Z.Warmed39 U.vm ∧ U.heap = h0) (fun _ _ _ _ _ => True) (fun _ U o U' => ∃ v L, o = .returned v ∧ Q20 Z a1 d h0 n0 v U'.heap L ∧ FrameEnd U o U' L ({ frames := 0, cells := 0, slots := 0, locals := 0 } : Room).cells ({ frames := 0, cells := 0, slots := 0, locals := 0 } : Room).slots) := by
  refine MetFree.of_bodySF (plainFor_of_name pn_20) hisR ?_
  intro p e s m args below meth c s₁ Bd hml0 hP hK
  obtain ⟨rfl, hZ, hh⟩ := hP
  have hx := Bd.exec
  have hby := Bd.bytes
  have hml : c.maxLocals = 1 := hml0
  have hown : s.vm.findClass "com/example/graded_flow/gradedflow/network/TriangularDiagram" = some m.cls := findClass_of_methodNamed Bd.named
  have hnm := (name_of_methodNamed Bd.named Bd.method).1
  have X0 : Stand p l e ({ frames := 0, cells := 0, slots := 0, locals := 0 } : Room) s m #[(.ref a1)] below meth c s₁ [] 0 0 := Stand.of_body Bd
  have e0 : s₁.heap = h0 := by rw [← hh, Bd.state]; rfl
  have N0 := Fr.nil n0
  have pre0 : ∀ t, Steps p.tables e below (s₁.setTop (mkF m 0 #[.val (.ref a1)] [])) t → Steps p.tables e below (s₁.setTop (entryFrame m #[(.ref a1)] 1)) t := fun t k => castTop (ef_20_x m a1) k
  have J1 : ∀ t, Steps p.tables e below (s₁.setTop (mkF m 1 #[.val (.ref a1)] [(.ref a1)])) t → Steps p.tables e below (s₁.setTop (entryFrame m #[(.ref a1)] 1)) t := fun t k => pre0 t (by
      show Steps p.tables e below (s₁.setTop (mkF m 0 #[.val (.ref a1)] [])) _
      refine XS.aloadN X0.here hx rfl (hb hby d20_0) rfl rfl ?_
      exact k)
  obtain ⟨T2, X2, e2, st2⟩ := getF X0 hx hZ hown (host := "") (Or.inl (hw _ (List.mem_of_getElem? (i := 36) rfl))) Via.refl e0 F_freeSpeed_a1 (g := (mkF m 1 #[.val (.ref a1)] [(.ref a1)])) rfl rfl (hb hby d20_1)
  have J3 : ∀ t, Steps p.tables e below (T2.setTop (mkF m 4 #[.val (.ref a1)] [(.double d)])) t → Steps p.tables e below (s₁.setTop (entryFrame m #[(.ref a1)] 1)) t := fun t k => J1 t (st2 t k)
  obtain ⟨fs, hr, hrun, hended, hW, hsame⟩ := X2.leave (v := some (.double d)) (fun h => by rw [Bd.returns] at h; cases h)
  refine ⟨_, _, J3 _ ?_, hrun, hended, _, _, rfl, ?_, ⟨_, rfl⟩, hW, hsame.mono (by decide) (by decide)⟩
  · show Steps p.tables e below (T2.setTop (mkF m 4 #[.val (.ref a1)] [(.double d)])) _
    exact retD X2 hx Bd.returns (hb hby d20_4) hr
  · show Q20 Z a1 d h0 n0 _ T2.heap _
    rw [e2]
    exact ⟨rfl, N0, rfl⟩
theorem d9_0 : decode jdk_22_method_1_code 0 = .ok (.aload_n 0, 1) := by decide +kernel
theorem d9_1 : decode jdk_22_method_1_code 1 = .ok (.invokespecial 1, 3) := by decide +kernel
theorem d9_4 : decode jdk_22_method_1_code 4 = .ok (.return_, 1) := by decide +kernel
theorem pn_9 : plainName "java/util/AbstractCollection" = true := by first | (simp [plainName, overriddenIn]; done) | decide +kernel
theorem ef_9_x (m : MethodId) (x0 : Addr) : entryFrame m #[(.ref x0)] 1 = mkF m 0 #[.val (.ref x0)] [] := by first | (simp [entryFrame, mkF, argsToLocals, Value.category]; done) | rfl
def Q9 (Z : State) (a1 : Addr) (h0 : Heap) (n0 : Nat) (v : Option Value) (h : Heap) (L : List Loc) : Prop := v = none ∧ Fr n0 L ∧ h = h0
set_option maxRecDepth 65536 in
set_option maxHeartbeats 40000000 in
theorem rm9 (l : Launch) (Z : State) (a0 : Array Value) (hw : ∀ d ∈ tables_1, d.before a0 Z = true) (ws : List Jvm.Cond) (a1 : Addr) (h0 : Heap) (n0 : Nat) (Z0 : n0 ≤ h0.size) :
    MetFree l (⟨"java/util/AbstractCollection", "<init>", "()V"⟩ : MethodName) (head1 (Jvm.Cond.code (⟨"java/util/AbstractCollection", "<init>", "()V"⟩ : MethodName) jdk_22_method_1_code 1 none :: ws) ({ frames := 1, cells := 0, slots := 0, locals := 12 } : Room)) (fun a U => a = #[(.ref a1)] ∧ Z.Warmed39 U.vm ∧ U.heap = h0) (fun _ _ _ _ _ => True) (fun _ U o U' => ∃ v L, o = .returned v ∧ Q9 Z a1 h0 n0 v U'.heap L ∧ FrameEnd U o U' L ({ frames := 1, cells := 0, slots := 0, locals := 12 } : Room).cells ({ frames := 1, cells := 0, slots := 0, locals := 12 } : Room).slots) := by
  refine MetFree.of_bodySF (plainFor_of_name pn_9) hisR ?_
  intro p e s m args below meth c s₁ Bd hml0 hP hK
  obtain ⟨rfl, hZ, hh⟩ := hP
  have hx := Bd.exec
  have hby := Bd.bytes
  have hml : c.maxLocals = 1 := hml0
  have hown : s.vm.findClass "java/util/AbstractCollection" = some m.cls := findClass_of_methodNamed Bd.named
  have hnm := (name_of_methodNamed Bd.named Bd.method).1
  have X0 : Stand p l e ({ frames := 1, cells := 0, slots := 0, locals := 12 } : Room) s m #[(.ref a1)] below meth c s₁ [] 0 0 := Stand.of_body Bd
  have e0 : s₁.heap = h0 := by rw [← hh, Bd.state]; rfl
  have N0 := Fr.nil n0
  have pre0 : ∀ t, Steps p.tables e below (s₁.setTop (mkF m 0 #[.val (.ref a1)] [])) t → Steps p.tables e below (s₁.setTop (entryFrame m #[(.ref a1)] 1)) t := fun t k => castTop (ef_9_x m a1) k
  have J1 : ∀ t, Steps p.tables e below (s₁.setTop (mkF m 1 #[.val (.ref a1)] [(.ref a1)])) t → Steps p.tables e below (s₁.setTop (entryFrame m #[(.ref a1)] 1)) t := fun t k => pre0 t (by
      show Steps p.tables e below (s₁.setTop (mkF m 0 #[.val (.ref a1)] [])) _
      refine XS.aloadN X0.here hx rfl (hb hby d9_0) rfl rfl ?_
      exact k)
  obtain ⟨T2, X2, e2, st2⟩ := initO X0 hx hZ hown (hw _ (List.mem_of_getElem? (i := 92) rfl)) (hw _ (List.mem_of_getElem? (i := 15) rfl)) (hw _ (List.mem_of_getElem? (i := 16) rfl)) e0 (g := (mkF m 1 #[.val (.ref a1)] [(.ref a1)])) rfl (by rw [hml]; rfl) rfl (hb hby d9_1) (by decide) (W := 0) (by show 2 * 0 + _ ≤ _; exact Nat.le_of_eq rfl) (by decide)
  have J3 : ∀ t, Steps p.tables e below (T2.setTop (mkF m 4 #[.val (.ref a1)] [])) t → Steps p.tables e below (s₁.setTop (entryFrame m #[(.ref a1)] 1)) t := fun t k => J1 t (st2 t k)
  obtain ⟨fs, hr, hrun, hended, hW, hsame⟩ := X2.leave (v := none) (fun _ => rfl)
  refine ⟨_, _, J3 _ ?_, hrun, hended, _, _, rfl, ?_, ⟨_, rfl⟩, hW, hsame.mono (by decide) (by decide)⟩
  · show Steps p.tables e below (T2.setTop (mkF m 4 #[.val (.ref a1)] [])) _
    exact X2.returnOut hx Bd.returns (hb hby d9_4) hr
  · show Q9 Z a1 h0 n0 _ T2.heap _
    rw [e2]
    exact ⟨rfl, N0, rfl⟩
theorem d8_0 : decode jdk_39_method_1_code 0 = .ok (.aload_n 0, 1) := by decide +kernel
theorem d8_1 : decode jdk_39_method_1_code 1 = .ok (.invokespecial 1, 3) := by decide +kernel
theorem d8_4 : decode jdk_39_method_1_code 4 = .ok (.aload_n 0, 1) := by decide +kernel
theorem d8_5 : decode jdk_39_method_1_code 5 = .ok (.iconst 0, 1) := by decide +kernel
theorem d8_6 : decode jdk_39_method_1_code 6 = .ok (.putfield 7, 3) := by decide +kernel
theorem d8_9 : decode jdk_39_method_1_code 9 = .ok (.return_, 1) := by decide +kernel
theorem pn_8 : plainName "java/util/AbstractList" = true := by first | (simp [plainName, overriddenIn]; done) | decide +kernel
theorem ef_8_x (m : MethodId) (x0 : Addr) : entryFrame m #[(.ref x0)] 1 = mkF m 0 #[.val (.ref x0)] [] := by first | (simp [entryFrame, mkF, argsToLocals, Value.category]; done) | rfl
def Q8 (Z : State) (a1 : Addr) (u : Value) (u2 : Value) (w : Int32) (h0 : Heap) (n0 : Nat) (v : Option Value) (h : Heap) (L : List Loc) : Prop := v = none ∧ Fr n0 L ∧ Keep h0 h [a1] ∧ (Exa Z h a1 "java/util/ArrayList") ∧ (Fld Z h a1 "java/util/AbstractList" "modCount" "I" (.int (0 : Int32))) ∧ (Fld Z h a1 "java/util/ArrayList" "elementData" "[Ljava/lang/Object;" u2) ∧ (Fld Z h a1 "java/util/ArrayList" "size" "I" (.int w))
set_option maxRecDepth 65536 in
set_option maxHeartbeats 40000000 in
theorem rm8 (l : Launch) (Z : State) (a0 : Array Value) (hw : ∀ d ∈ tables_1, d.before a0 Z = true) (ws : List Jvm.Cond) (a1 : Addr) (u : Value) (u2 : Value) (w : Int32) (h0 : Heap) (n0 : Nat) (Z0 : n0 ≤ h0.size) (E_a1 : Exa Z h0 a1 "java/util/ArrayList") (g_a1 : n0 ≤ a1) (F_modCount_a1 : Fld Z h0 a1 "java/util/AbstractList" "modCount" "I" u) (F_elementData_a1 : Fld Z h0 a1 "java/util/ArrayList" "elementData" "[Ljava/lang/Object;" u2) (F_size_a1 : Fld Z h0 a1 "java/util/ArrayList" "size" "I" (.int w)) :
    MetFree l (⟨"java/util/AbstractList", "<init>", "()V"⟩ : MethodName) (head1 (Jvm.Cond.code (⟨"java/util/AbstractList", "<init>", "()V"⟩ : MethodName) jdk_39_method_1_code 1 none :: ws) ({ frames := 2, cells := 0, slots := 0, locals := 24 } : Room)) (fun a U => a = #[(.ref a1)] ∧ Z.Warmed39 U.vm ∧ U.heap = h0) (fun _ _ _ _ _ => True) (fun _ U o U' => ∃ v L, o = .returned v ∧ Q8 Z a1 u u2 w h0 n0 v U'.heap L ∧ FrameEnd U o U' L ({ frames := 2, cells := 0, slots := 0, locals := 24 } : Room).cells ({ frames := 2, cells := 0, slots := 0, locals := 24 } : Room).slots) := by
  refine MetFree.of_bodySF (plainFor_of_name pn_8) hisR ?_
  intro p e s m args below meth c s₁ Bd hml0 hP hK
  obtain ⟨rfl, hZ, hh⟩ := hP
  have hx := Bd.exec
  have hby := Bd.bytes
  have hml : c.maxLocals = 1 := hml0
  have hown : s.vm.findClass "java/util/AbstractList" = some m.cls := findClass_of_methodNamed Bd.named
  have hnm := (name_of_methodNamed Bd.named Bd.method).1
  have X0 : Stand p l e ({ frames := 2, cells := 0, slots := 0, locals := 24 } : Room) s m #[(.ref a1)] below meth c s₁ [] 0 0 := Stand.of_body Bd
  have e0 : s₁.heap = h0 := by rw [← hh, Bd.state]; rfl
  have N0 := Fr.nil n0
  have pre0 : ∀ t, Steps p.tables e below (s₁.setTop (mkF m 0 #[.val (.ref a1)] [])) t → Steps p.tables e below (s₁.setTop (entryFrame m #[(.ref a1)] 1)) t := fun t k => castTop (ef_8_x m a1) k
  have J1 : ∀ t, Steps p.tables e below (s₁.setTop (mkF m 1 #[.val (.ref a1)] [(.ref a1)])) t → Steps p.tables e below (s₁.setTop (entryFrame m #[(.ref a1)] 1)) t := fun t k => pre0 t (by
      show Steps p.tables e below (s₁.setTop (mkF m 0 #[.val (.ref a1)] [])) _
      refine XS.aloadN X0.here hx rfl (hb hby d8_0) rfl rfl ?_
      exact k)
  obtain ⟨_, _, ⟨T2, L2, k2, n2⟩, -, X2, ⟨Lc2, hQ2, l2, y2, z2⟩, st2⟩ := X0.specialBack hx (y := (⟨"java/util/AbstractCollection", "<init>", "()V"⟩ : MethodName)) rfl hown (mvT hZ (hw _ (List.mem_of_getElem? (i := 86) rfl))) (mvT hZ (hw _ (List.mem_of_getElem? (i := 87) rfl))) (mvT hZ (hw _ (List.mem_of_getElem? (i := 91) rfl))) (by decide) (backOf (W := 0) (rm9 l Z a0 hw [] a1 h0 n0 Z0 ) hZ (hw _ (List.mem_of_getElem? (i := 91) rfl)) (hw _ (List.mem_of_getElem? (i := 90) rfl)) (by decide) (by decide)) (g := (mkF m 1 #[.val (.ref a1)] [(.ref a1)])) rfl (by rw [hml]; rfl) (Steps.refl _) (a := a1) (argsL := []) (rest := []) (lenOf pd_0 rfl) rfl (by show 2 * 0 + _ ≤ _; exact Nat.le_of_eq rfl) (hb hby d8_1) (fun _ _ => ⟨rfl, e0, (by decide : 0 + 0 ≤ _), (by decide : 0 + 0 ≤ _)⟩)
  dsimp only [Pt.U, Pt.locs, Pt.cells, Pt.slots] at X2 l2 y2 z2 st2 hQ2
  subst l2 y2 z2
  obtain ⟨rfl, Nq2, e2⟩ := hQ2
  have N3 := Fr.app N0 Nq2
  have J4 : ∀ t, Steps p.tables e below (T2.setTop (mkF m 4 #[.val (.ref a1)] [])) t → Steps p.tables e below (s₁.setTop (entryFrame m #[(.ref a1)] 1)) t := fun t k => J1 t (st2.trans k)
  have J5 : ∀ t, Steps p.tables e below (T2.setTop (mkF m 6 #[.val (.ref a1)] [(.int (0 : Int32)), (.ref a1)])) t → Steps p.tables e below (s₁.setTop (entryFrame m #[(.ref a1)] 1)) t := fun t k => J4 t (by
      show Steps p.tables e below (T2.setTop (mkF m 4 #[.val (.ref a1)] [])) _
      refine XS.aloadN X2.here hx rfl (hb hby d8_4) rfl rfl ?_
      show Steps p.tables e below (T2.setTop (mkF m 5 #[.val (.ref a1)] [(.ref a1)])) _
      refine XS.iconst X2.here hx rfl (hb hby d8_5) ?_
      exact k)
  obtain ⟨T6, h6, X6, e6, W6, st6⟩ := putF X2 hx hZ hown (host := "") (Or.inl (hw _ (List.mem_of_getElem? (i := 93) rfl))) Via.refl e2 F_modCount_a1 E_a1 (Or.inl (hw _ (List.mem_of_getElem? (i := 94) rfl))) (hw _ (List.mem_of_getElem? (i := 75) rfl)) (ty := .int) (by decide) rfl rfl (g := (mkF m 6 #[.val (.ref a1)] [(.int (0 : Int32)), (.ref a1)])) rfl rfl (hb hby d8_6)
  have J7 : ∀ t, Steps p.tables e below (T6.setTop (mkF m 9 #[.val (.ref a1)] [])) t → Steps p.tables e below (s₁.setTop (entryFrame m #[(.ref a1)] 1)) t := fun t k => J5 t (st6 t k)
  have Z8 : n0 ≤ h6.size := Nat.le_trans Z0 (Keep.of_wr W6).1
  have KK9 : Keep h0 h6 [a1] := (Keep.refl h0 [a1]).wr W6 (Or.inl (List.mem_of_getElem? (i := 0) rfl))
  have N10 := Fr.snoc X6 N3 g_a1
  have Fw6 := F_modCount_a1.same W6
  obtain ⟨fs, hr, hrun, hended, hW, hsame⟩ := X6.leave (v := none) (fun _ => rfl)
  have f11 := E_a1.wr W6
  have f12 := F_elementData_a1.other W6 (Or.inr (slot_ne (Or.inl (hw _ (List.mem_of_getElem? (i := 97) rfl))) (Or.inl (hw _ (List.mem_of_getElem? (i := 94) rfl))) (by decide) (t := (.array (.object "java/lang/Object"))) (t' := .int) (by decide) (by decide)))
  have f13 := F_size_a1.other W6 (Or.inr (slot_ne (Or.inl (hw _ (List.mem_of_getElem? (i := 133) rfl))) (Or.inl (hw _ (List.mem_of_getElem? (i := 94) rfl))) (by decide) (t := .int) (t' := .int) (by decide) (by decide)))
  refine ⟨_, _, J7 _ ?_, hrun, hended, _, _, rfl, ?_, ⟨_, rfl⟩, hW, hsame.mono (by decide) (by decide)⟩
  · show Steps p.tables e below (T6.setTop (mkF m 9 #[.val (.ref a1)] [])) _
    exact X6.returnOut hx Bd.returns (hb hby d8_9) hr
  · show Q8 Z a1 u u2 w h0 n0 _ T6.heap _
    rw [e6]
    exact ⟨rfl, N10, KK9, f11, Fw6, f12, f13⟩
theorem d7_0 : decode jdk_38_method_2_code 0 = .ok (.aload_n 0, 1) := by decide +kernel
theorem d7_1 : decode jdk_38_method_2_code 1 = .ok (.invokespecial 1, 3) := by decide +kernel
theorem d7_4 : decode jdk_38_method_2_code 4 = .ok (.aload_n 0, 1) := by decide +kernel
theorem d7_5 : decode jdk_38_method_2_code 5 = .ok (.getstatic 39, 3) := by decide +kernel
theorem d7_8 : decode jdk_38_method_2_code 8 = .ok (.putfield 9, 3) := by decide +kernel
theorem d7_11 : decode jdk_38_method_2_code 11 = .ok (.return_, 1) := by decide +kernel
theorem pn_7 : plainName "java/util/ArrayList" = true := by first | (simp [plainName, overriddenIn]; done) | decide +kernel
theorem ef_7_x (m : MethodId) (x0 : Addr) : entryFrame m #[(.ref x0)] 1 = mkF m 0 #[.val (.ref x0)] [] := by first | (simp [entryFrame, mkF, argsToLocals, Value.category]; done) | rfl
def Q7 (Z : State) (a1 : Addr) (de : Addr) (u : Value) (u2 : Value) (w : Int32) (h0 : Heap) (n0 : Nat) (v : Option Value) (h : Heap) (L : List Loc) : Prop := v = none ∧ Fr n0 L ∧ Keep h0 h [a1] ∧ (Exa Z h a1 "java/util/ArrayList") ∧ (Fld Z h a1 "java/util/AbstractList" "modCount" "I" (.int (0 : Int32))) ∧ (Fld Z h a1 "java/util/ArrayList" "elementData" "[Ljava/lang/Object;" (.ref de)) ∧ (Fld Z h a1 "java/util/ArrayList" "size" "I" (.int w))
set_option maxRecDepth 65536 in
set_option maxHeartbeats 40000000 in
theorem rm7 (l : Launch) (Z : State) (a0 : Array Value) (hw : ∀ d ∈ tables_1, d.before a0 Z = true) (ws : List Jvm.Cond) (a1 : Addr) (de : Addr) (u : Value) (u2 : Value) (w : Int32) (h0 : Heap) (n0 : Nat) (Z0 : n0 ≤ h0.size) (E_a1 : Exa Z h0 a1 "java/util/ArrayList") (g_a1 : n0 ≤ a1) (O : Old Z n0 h0) (Zs_DEFAULTCAPACITY_EMPTY_ELEMENTDATA : Sta Z Z.heap "java/util/ArrayList" "DEFAULTCAPACITY_EMPTY_ELEMENTDATA" "[Ljava/lang/Object;" (.ref de)) (F_modCount_a1 : Fld Z h0 a1 "java/util/AbstractList" "modCount" "I" u) (F_elementData_a1 : Fld Z h0 a1 "java/util/ArrayList" "elementData" "[Ljava/lang/Object;" u2) (F_size_a1 : Fld Z h0 a1 "java/util/ArrayList" "size" "I" (.int w)) :
    MetFree l (⟨"java/util/ArrayList", "<init>", "()V"⟩ : MethodName) (head1 (Jvm.Cond.code (⟨"java/util/ArrayList", "<init>", "()V"⟩ : MethodName) jdk_38_method_2_code 1 none :: ws) ({ frames := 3, cells := 0, slots := 0, locals := 36 } : Room)) (fun a U => a = #[(.ref a1)] ∧ Z.Warmed39 U.vm ∧ U.heap = h0) (fun _ _ _ _ _ => True) (fun _ U o U' => ∃ v L, o = .returned v ∧ Q7 Z a1 de u u2 w h0 n0 v U'.heap L ∧ FrameEnd U o U' L ({ frames := 3, cells := 0, slots := 0, locals := 36 } : Room).cells ({ frames := 3, cells := 0, slots := 0, locals := 36 } : Room).slots) := by
  refine MetFree.of_bodySF (plainFor_of_name pn_7) hisR ?_
  intro p e s m args below meth c s₁ Bd hml0 hP hK
  obtain ⟨rfl, hZ, hh⟩ := hP
  have hx := Bd.exec
  have hby := Bd.bytes
  have hml : c.maxLocals = 1 := hml0
  have hown : s.vm.findClass "java/util/ArrayList" = some m.cls := findClass_of_methodNamed Bd.named
  have hnm := (name_of_methodNamed Bd.named Bd.method).1
  have X0 : Stand p l e ({ frames := 3, cells := 0, slots := 0, locals := 36 } : Room) s m #[(.ref a1)] below meth c s₁ [] 0 0 := Stand.of_body Bd
  have e0 : s₁.heap = h0 := by rw [← hh, Bd.state]; rfl
  have N0 := Fr.nil n0
  have pre0 : ∀ t, Steps p.tables e below (s₁.setTop (mkF m 0 #[.val (.ref a1)] [])) t → Steps p.tables e below (s₁.setTop (entryFrame m #[(.ref a1)] 1)) t := fun t k => castTop (ef_7_x m a1) k
  have J1 : ∀ t, Steps p.tables e below (s₁.setTop (mkF m 1 #[.val (.ref a1)] [(.ref a1)])) t → Steps p.tables e below (s₁.setTop (entryFrame m #[(.ref a1)] 1)) t := fun t k => pre0 t (by
      show Steps p.tables e below (s₁.setTop (mkF m 0 #[.val (.ref a1)] [])) _
      refine XS.aloadN X0.here hx rfl (hb hby d7_0) rfl rfl ?_
      exact k)
  obtain ⟨_, _, ⟨T2, L2, k2, n2⟩, -, X2, ⟨Lc2, hQ2, l2, y2, z2⟩, st2⟩ := X0.specialBack hx (y := (⟨"java/util/AbstractList", "<init>", "()V"⟩ : MethodName)) rfl hown (mvT hZ (hw _ (List.mem_of_getElem? (i := 80) rfl))) (mvT hZ (hw _ (List.mem_of_getElem? (i := 81) rfl))) (mvT hZ (hw _ (List.mem_of_getElem? (i := 85) rfl))) (by decide) (backOf (W := 0) (rm8 l Z a0 hw [] a1 u u2 w h0 n0 Z0 E_a1 g_a1 F_modCount_a1 F_elementData_a1 F_size_a1) hZ (hw _ (List.mem_of_getElem? (i := 85) rfl)) (hw _ (List.mem_of_getElem? (i := 84) rfl)) (by decide) (by decide)) (g := (mkF m 1 #[.val (.ref a1)] [(.ref a1)])) rfl (by rw [hml]; rfl) (Steps.refl _) (a := a1) (argsL := []) (rest := []) (lenOf pd_0 rfl) rfl (by show 2 * 0 + _ ≤ _; exact Nat.le_of_eq rfl) (hb hby d7_1) (fun _ _ => ⟨rfl, e0, (by decide : 0 + 0 ≤ _), (by decide : 0 + 0 ≤ _)⟩)
  dsimp only [Pt.U, Pt.locs, Pt.cells, Pt.slots] at X2 l2 y2 z2 st2 hQ2
  subst l2 y2 z2
  obtain ⟨rfl, Nq2, K2, p2_1, p2_2, p2_3, p2_4⟩ := hQ2
  have N3 := Fr.app N0 Nq2
  have J4 : ∀ t, Steps p.tables e below (T2.setTop (mkF m 4 #[.val (.ref a1)] [])) t → Steps p.tables e below (s₁.setTop (entryFrame m #[(.ref a1)] 1)) t := fun t k => J1 t (st2.trans k)
  have Z5 : n0 ≤ T2.heap.size := Nat.le_trans Z0 K2.1
  have KK6 : Keep h0 T2.heap [a1] := (Keep.refl h0 [a1]).trans K2 (allS (Or.inl (List.mem_of_getElem? (i := 0) rfl)) all0)
  have J7 : ∀ t, Steps p.tables e below (T2.setTop (mkF m 5 #[.val (.ref a1)] [(.ref a1)])) t → Steps p.tables e below (s₁.setTop (entryFrame m #[(.ref a1)] 1)) t := fun t k => J4 t (by
      show Steps p.tables e below (T2.setTop (mkF m 4 #[.val (.ref a1)] [])) _
      refine XS.aloadN X2.here hx rfl (hb hby d7_4) rfl rfl ?_
      exact k)
  have f8 := O.keep K2 (allS g_a1 all0)
  obtain ⟨T9, X9, e9, st9⟩ := getS2 X2 hx hZ hown (host := "") (Or.inl (hw _ (List.mem_of_getElem? (i := 95) rfl))) Via.refl rfl (Zs_DEFAULTCAPACITY_EMPTY_ELEMENTDATA.ext f8.2) (g := (mkF m 5 #[.val (.ref a1)] [(.ref a1)])) rfl (hb hby d7_5)
  have J10 : ∀ t, Steps p.tables e below (T9.setTop (mkF m 8 #[.val (.ref a1)] [(.ref de), (.ref a1)])) t → Steps p.tables e below (s₁.setTop (entryFrame m #[(.ref a1)] 1)) t := fun t k => J7 t (st9 t k)
  obtain ⟨T11, h11, X11, e11, W11, st11⟩ := putF X9 hx hZ hown (host := "") (Or.inl (hw _ (List.mem_of_getElem? (i := 96) rfl))) Via.refl e9 p2_3 p2_1 (Or.inl (hw _ (List.mem_of_getElem? (i := 97) rfl))) (hw _ (List.mem_of_getElem? (i := 75) rfl)) (ty := (.array (.object "java/lang/Object"))) (by decide) rfl rfl (g := (mkF m 8 #[.val (.ref a1)] [(.ref de), (.ref a1)])) rfl rfl (hb hby d7_8)
  have J12 : ∀ t, Steps p.tables e below (T11.setTop (mkF m 11 #[.val (.ref a1)] [])) t → Steps p.tables e below (s₁.setTop (entryFrame m #[(.ref a1)] 1)) t := fun t k => J10 t (st11 t k)
  have Z13 : n0 ≤ h11.size := Nat.le_trans Z5 (Keep.of_wr W11).1
  have KK14 : Keep h0 h11 [a1] := KK6.wr W11 (Or.inl (List.mem_of_getElem? (i := 0) rfl))
  have N15 := Fr.snoc X11 N3 g_a1
  have Fw11 := p2_3.same W11
  obtain ⟨fs, hr, hrun, hended, hW, hsame⟩ := X11.leave (v := none) (fun _ => rfl)
  have f16 := p2_1.wr W11
  have f17 := p2_2.other W11 (Or.inr (slot_ne (Or.inl (hw _ (List.mem_of_getElem? (i := 94) rfl))) (Or.inl (hw _ (List.mem_of_getElem? (i := 97) rfl))) (by decide) (t := .int) (t' := (.array (.object "java/lang/Object"))) (by decide) (by decide)))
  have f18 := p2_4.other W11 (Or.inr (slot_ne (Or.inl (hw _ (List.mem_of_getElem? (i := 133) rfl))) (Or.inl (hw _ (List.mem_of_getElem? (i := 97) rfl))) (by decide) (t := .int) (t' := (.array (.object "java/lang/Object"))) (by decide) (by decide)))
  refine ⟨_, _, J12 _ ?_, hrun, hended, _, _, rfl, ?_, ⟨_, rfl⟩, hW, hsame.mono (by decide) (by decide)⟩
  · show Steps p.tables e below (T11.setTop (mkF m 11 #[.val (.ref a1)] [])) _
    exact X11.returnOut hx Bd.returns (hb hby d7_11) hr
  · show Q7 Z a1 de u u2 w h0 n0 _ T11.heap _
    rw [e11]
    exact ⟨rfl, N15, KK14, f16, f17, Fw11, f18⟩
theorem d11_0 : decode jdk_21_method_3_code 0 = .ok (.aload_n 0, 1) := by decide +kernel
theorem d11_1 : decode jdk_21_method_3_code 1 = .ok (.invokespecial 42, 3) := by decide +kernel
theorem d11_4 : decode jdk_21_method_3_code 4 = .ok (.aload_n 0, 1) := by decide +kernel
theorem d11_5 : decode jdk_21_method_3_code 5 = .ok (.bipush 17, 2) := by decide +kernel
theorem d11_7 : decode jdk_21_method_3_code 7 = .ok (.anewarray 47, 3) := by decide +kernel
theorem d11_10 : decode jdk_21_method_3_code 10 = .ok (.putfield 3, 3) := by decide +kernel
theorem d11_13 : decode jdk_21_method_3_code 13 = .ok (.return_, 1) := by decide +kernel
theorem pn_11 : plainName "java/util/ArrayDeque" = true := by first | (simp [plainName, overriddenIn]; done) | decide +kernel
theorem ef_11_x (m : MethodId) (x0 : Addr) : entryFrame m #[(.ref x0)] 1 = mkF m 0 #[.val (.ref x0)] [] := by first | (simp [entryFrame, mkF, argsToLocals, Value.category]; done) | rfl
def Q11 (Z : State) (a1 : Addr) (u : Value) (h0 : Heap) (n0 : Nat) (v : Option Value) (h : Heap) (L : List Loc) : Prop := v = none ∧ Fr n0 L ∧ Keep h0 h [a1] ∧ (Exa Z h a1 "java/util/ArrayDeque")
set_option maxRecDepth 65536 in
set_option maxHeartbeats 40000000 in
theorem rm11 (l : Launch) (Z : State) (a0 : Array Value) (hw : ∀ d ∈ tables_1, d.before a0 Z = true) (ws : List Jvm.Cond) (a1 : Addr) (u : Value) (h0 : Heap) (n0 : Nat) (Z0 : n0 ≤ h0.size) (E_a1 : Exa Z h0 a1 "java/util/ArrayDeque") (g_a1 : n0 ≤ a1) (F_elements_a1 : Fld Z h0 a1 "java/util/ArrayDeque" "elements" "[Ljava/lang/Object;" u) :
    MetFree l (⟨"java/util/ArrayDeque", "<init>", "()V"⟩ : MethodName) (head1 (Jvm.Cond.code (⟨"java/util/ArrayDeque", "<init>", "()V"⟩ : MethodName) jdk_21_method_3_code 1 none :: ws) ({ frames := 2, cells := 1, slots := 17, locals := 24 } : Room)) (fun a U => a = #[(.ref a1)] ∧ Z.Warmed39 U.vm ∧ U.heap = h0) (fun _ _ _ _ _ => True) (fun _ U o U' => ∃ v L, o = .returned v ∧ Q11 Z a1 u h0 n0 v U'.heap L ∧ FrameEnd U o U' L ({ frames := 2, cells := 1, slots := 17, locals := 24 } : Room).cells ({ frames := 2, cells := 1, slots := 17, locals := 24 } : Room).slots) := by
  refine MetFree.of_bodySF (plainFor_of_name pn_11) hisR ?_
  intro p e s m args below meth c s₁ Bd hml0 hP hK
  obtain ⟨rfl, hZ, hh⟩ := hP
  have hx := Bd.exec
  have hby := Bd.bytes
  have hml : c.maxLocals = 1 := hml0
  have hown : s.vm.findClass "java/util/ArrayDeque" = some m.cls := findClass_of_methodNamed Bd.named
  have hnm := (name_of_methodNamed Bd.named Bd.method).1
  have X0 : Stand p l e ({ frames := 2, cells := 1, slots := 17, locals := 24 } : Room) s m #[(.ref a1)] below meth c s₁ [] 0 0 := Stand.of_body Bd
  have e0 : s₁.heap = h0 := by rw [← hh, Bd.state]; rfl
  have N0 := Fr.nil n0
  have pre0 : ∀ t, Steps p.tables e below (s₁.setTop (mkF m 0 #[.val (.ref a1)] [])) t → Steps p.tables e below (s₁.setTop (entryFrame m #[(.ref a1)] 1)) t := fun t k => castTop (ef_11_x m a1) k
  have J1 : ∀ t, Steps p.tables e below (s₁.setTop (mkF m 1 #[.val (.ref a1)] [(.ref a1)])) t → Steps p.tables e below (s₁.setTop (entryFrame m #[(.ref a1)] 1)) t := fun t k => pre0 t (by
      show Steps p.tables e below (s₁.setTop (mkF m 0 #[.val (.ref a1)] [])) _
      refine XS.aloadN X0.here hx rfl (hb hby d11_0) rfl rfl ?_
      exact k)
  obtain ⟨_, _, ⟨T2, L2, k2, n2⟩, -, X2, ⟨Lc2, hQ2, l2, y2, z2⟩, st2⟩ := X0.specialBack hx (y := (⟨"java/util/AbstractCollection", "<init>", "()V"⟩ : MethodName)) rfl hown (mvT hZ (hw _ (List.mem_of_getElem? (i := 115) rfl))) (mvT hZ (hw _ (List.mem_of_getElem? (i := 87) rfl))) (mvT hZ (hw _ (List.mem_of_getElem? (i := 91) rfl))) (by decide) (backOf (W := 0) (rm9 l Z a0 hw [] a1 h0 n0 Z0 ) hZ (hw _ (List.mem_of_getElem? (i := 91) rfl)) (hw _ (List.mem_of_getElem? (i := 90) rfl)) (by decide) (by decide)) (g := (mkF m 1 #[.val (.ref a1)] [(.ref a1)])) rfl (by rw [hml]; rfl) (Steps.refl _) (a := a1) (argsL := []) (rest := []) (lenOf pd_0 rfl) rfl (by show 2 * 0 + _ ≤ _; exact Nat.le_of_eq rfl) (hb hby d11_1) (fun _ _ => ⟨rfl, e0, (by decide : 0 + 0 ≤ _), (by decide : 0 + 0 ≤ _)⟩)
  dsimp only [Pt.U, Pt.locs, Pt.cells, Pt.slots] at X2 l2 y2 z2 st2 hQ2
  subst l2 y2 z2
  obtain ⟨rfl, Nq2, e2⟩ := hQ2
  have N3 := Fr.app N0 Nq2
  have J4 : ∀ t, Steps p.tables e below (T2.setTop (mkF m 4 #[.val (.ref a1)] [])) t → Steps p.tables e below (s₁.setTop (entryFrame m #[(.ref a1)] 1)) t := fun t k => J1 t (st2.trans k)
  have J5 : ∀ t, Steps p.tables e below (T2.setTop (mkF m 7 #[.val (.ref a1)] [(.int (17 : Int32)), (.ref a1)])) t → Steps p.tables e below (s₁.setTop (entryFrame m #[(.ref a1)] 1)) t := fun t k => J4 t (by
      show Steps p.tables e below (T2.setTop (mkF m 4 #[.val (.ref a1)] [])) _
      refine XS.aloadN X2.here hx rfl (hb hby d11_4) rfl rfl ?_
      show Steps p.tables e below (T2.setTop (mkF m 5 #[.val (.ref a1)] [(.ref a1)])) _
      refine XS.bipush X2.here hx rfl (hb hby d11_5) ?_
      exact k)
  obtain ⟨T6, h6, k6, X6, e6, E6, A6, O6, st6⟩ := newR X2 hx hZ hown (hw _ (List.mem_of_getElem? (i := 117) rfl)) (hw _ (List.mem_of_getElem? (i := 118) rfl)) e2 (g := (mkF m 7 #[.val (.ref a1)] [(.int (17 : Int32)), (.ref a1)])) rfl (hb hby d11_7) rfl (by decide) (cap := 17) (by decide) (by decide) (by decide) (by decide)
  obtain ⟨b6, g6⟩ : ∃ z, z = h0.size := ⟨_, rfl⟩
  rw [← g6] at A6 st6
  obtain ⟨cl6, hcl6⟩ : ∃ z, z = newA k6 (.object "java/lang/Object") (17 : Int32) := ⟨_, rfl⟩
  have Aw6 : Arr Z h6 b6 cl6 (.object "java/lang/Object") := by rw [hcl6]; exact A6
  have Ov6 : Ovr Z cl6.cls "java/lang/Object" := by rw [hcl6]; exact O6
  have J7 : ∀ t, Steps p.tables e below (T6.setTop (mkF m 10 #[.val (.ref a1)] [(.ref b6), (.ref a1)])) t → Steps p.tables e below (s₁.setTop (entryFrame m #[(.ref a1)] 1)) t := fun t k => J5 t (st6 t k)
  have ne8 : a1 ≠ b6 := Nat.ne_of_lt (Nat.lt_of_lt_of_le E_a1.lt (Nat.le_of_eq g6.symm))
  have ge9 : n0 ≤ b6 := Nat.le_trans Z0 (Nat.le_of_eq g6.symm)
  have sz10 : h0.size ≤ b6 := Nat.le_trans (Keep.refl h0 [a1]).1 (Nat.le_of_eq g6.symm)
  have Z11 : n0 ≤ h6.size := Nat.le_trans Z0 E6.1
  have KK12 : Keep h0 h6 [a1] := (Keep.refl h0 [a1]).ext E6
  have f13 := F_elements_a1.ext E6
  have f14 := E_a1.ext E6
  obtain ⟨T15, h15, X15, e15, W15, st15⟩ := putF X6 hx hZ hown (host := "") (Or.inl (hw _ (List.mem_of_getElem? (i := 119) rfl))) Via.refl e6 f13 f14 (Or.inl (hw _ (List.mem_of_getElem? (i := 120) rfl))) (hw _ (List.mem_of_getElem? (i := 110) rfl)) (ty := (.array (.object "java/lang/Object"))) (by decide) rfl rfl (g := (mkF m 10 #[.val (.ref a1)] [(.ref b6), (.ref a1)])) rfl rfl (hb hby d11_10)
  have J16 : ∀ t, Steps p.tables e below (T15.setTop (mkF m 13 #[.val (.ref a1)] [])) t → Steps p.tables e below (s₁.setTop (entryFrame m #[(.ref a1)] 1)) t := fun t k => J7 t (st15 t k)
  have Z17 : n0 ≤ h15.size := Nat.le_trans Z11 (Keep.of_wr W15).1
  have KK18 : Keep h0 h15 [a1] := KK12.wr W15 (Or.inl (List.mem_of_getElem? (i := 0) rfl))
  have N19 := Fr.snoc X15 N3 g_a1
  have Fw15 := f13.same W15
  obtain ⟨fs, hr, hrun, hended, hW, hsame⟩ := X15.leave (v := none) (fun _ => rfl)
  have f20 := f14.wr W15
  refine ⟨_, _, J16 _ ?_, hrun, hended, _, _, rfl, ?_, ⟨_, rfl⟩, hW, hsame.mono (by decide) (by decide)⟩
  · show Steps p.tables e below (T15.setTop (mkF m 13 #[.val (.ref a1)] [])) _
    exact X15.returnOut hx Bd.returns (hb hby d11_13) hr
  · show Q11 Z a1 u h0 n0 _ T15.heap _
    rw [e15]
    exact ⟨rfl, N19, KK18, f20⟩
theorem d16_0 : decode jdk_29_method_65_code 0 = .ok (.iload_n 0, 1) := by decide +kernel
theorem d16_1 : decode jdk_29_method_65_code 1 = .ok (.iload_n 1, 1) := by decide +kernel
theorem d16_2 : decode jdk_29_method_65_code 2 = .ok (.if_icmp .lt 7, 3) := by decide +kernel
theorem d16_5 : decode jdk_29_method_65_code 5 = .ok (.iload_n 0, 1) := by decide +kernel
theorem d16_6 : decode jdk_29_method_65_code 6 = .ok (.goto 4, 3) := by decide +kernel
theorem d16_10 : decode jdk_29_method_65_code 10 = .ok (.ireturn, 1) := by decide +kernel
theorem ef_16_xx (m : MethodId) (x0 : Int32) (x1 : Int32) : entryFrame m #[(.int x0), (.int x1)] 2 = mkF m 0 #[.val (.int x0), .val (.int x1)] [] := by first | (simp [entryFrame, mkF, argsToLocals, Value.category]; done) | rfl
def Q16 (Z : State)  (h0 : Heap) (n0 : Nat) (v : Option Value) (h : Heap) (L : List Loc) : Prop := v = some (.int (10 : Int32)) ∧ Fr n0 L ∧ h = h0
set_option maxRecDepth 65536 in
set_option maxHeartbeats 40000000 in
theorem rm16 (l : Launch) (Z : State) (a0 : Array Value) (hw : ∀ d ∈ tables_1, d.before a0 Z = true) (ws : List Jvm.Cond)  (h0 : Heap) (n0 : Nat) (Z0 : n0 ≤ h0.size) :
    MetFree l (⟨"java/lang/Math", "max", "(II)I"⟩ : MethodName) (head1 (Jvm.Cond.code (⟨"java/lang/Math", "max", "(II)I"⟩ : MethodName) jdk_29_method_65_code 2 (some .int) :: ws) ({ frames := 0, cells := 0, slots := 0, locals := 0 } : Room)) (fun a U => a = #[(.int (10 : Int32)), (.int (1 : Int32))] ∧ Z.Warmed39 U.vm ∧ U.heap = h0) (fun _ _ _ _ _ => True) (fun _ U o U' => ∃ v L, o = .returned v ∧ Q16 Z  h0 n0 v U'.heap L ∧ FrameEnd U o U' L ({ frames := 0, cells := 0, slots := 0, locals := 0 } : Room).cells ({ frames := 0, cells := 0, slots := 0, locals := 0 } : Room).slots) := by
  refine MetFree.of_bodySF (Jvm.Free.JP.mathPlain rfl (by decide +kernel)) hisR ?_
  intro p e s m args below meth c s₁ Bd hml0 hP hK
  obtain ⟨rfl, hZ, hh⟩ := hP
  have hx := Bd.exec
  have hby := Bd.bytes
  have hml : c.maxLocals = 2 := hml0
  have hown : s.vm.findClass "java/lang/Math" = some m.cls := findClass_of_methodNamed Bd.named
  have hnm := (name_of_methodNamed Bd.named Bd.method).1
  have X0 : Stand p l e ({ frames := 0, cells := 0, slots := 0, locals := 0 } : Room) s m #[(.int (10 : Int32)), (.int (1 : Int32))] below meth c s₁ [] 0 0 := Stand.of_body Bd
  have e0 : s₁.heap = h0 := by rw [← hh, Bd.state]; rfl
  have N0 := Fr.nil n0
  have pre0 : ∀ t, Steps p.tables e below (s₁.setTop (mkF m 0 #[.val (.int (10 : Int32)), .val (.int (1 : Int32))] [])) t → Steps p.tables e below (s₁.setTop (entryFrame m #[(.int (10 : Int32)), (.int (1 : Int32))] 2)) t := fun t k => castTop (ef_16_xx m (10 : Int32) (1 : Int32)) k
  have J1 : ∀ t, Steps p.tables e below (s₁.setTop (mkF m 10 #[.val (.int (10 : Int32)), .val (.int (1 : Int32))] [(.int (10 : Int32))])) t → Steps p.tables e below (s₁.setTop (entryFrame m #[(.int (10 : Int32)), (.int (1 : Int32))] 2)) t := fun t k => pre0 t (by
      show Steps p.tables e below (s₁.setTop (mkF m 0 #[.val (.int (10 : Int32)), .val (.int (1 : Int32))] [])) _
      refine XS.iloadN X0.here hx rfl (hb hby d16_0) rfl ?_
      show Steps p.tables e below (s₁.setTop (mkF m 1 #[.val (.int (10 : Int32)), .val (.int (1 : Int32))] [(.int (10 : Int32))])) _
      refine XS.iloadN X0.here hx rfl (hb hby d16_1) rfl ?_
      show Steps p.tables e below (s₁.setTop (mkF m 2 #[.val (.int (10 : Int32)), .val (.int (1 : Int32))] [(.int (1 : Int32)), (.int (10 : Int32))])) _
      refine XS.icmpNo X0.here hx rfl (hb hby d16_2) rfl (flt (by decide)).1 ?_
      show Steps p.tables e below (s₁.setTop (mkF m 5 #[.val (.int (10 : Int32)), .val (.int (1 : Int32))] [])) _
      refine XS.iloadN X0.here hx rfl (hb hby d16_5) rfl ?_
      show Steps p.tables e below (s₁.setTop (mkF m 6 #[.val (.int (10 : Int32)), .val (.int (1 : Int32))] [(.int (10 : Int32))])) _
      refine XS.goto X0.here hx rfl (pc0 := 6) (pc' := 10) rfl (hb hby d16_6) (by decide) (by decide) ?_
      exact k)
  obtain ⟨fs, hr, hrun, hended, hW, hsame⟩ := X0.leave (v := some (.int (10 : Int32))) (fun h => by rw [Bd.returns] at h; cases h)
  refine ⟨_, _, J1 _ ?_, hrun, hended, _, _, rfl, ?_, ⟨_, rfl⟩, hW, hsame.mono (by decide) (by decide)⟩
  · show Steps p.tables e below (s₁.setTop (mkF m 10 #[.val (.int (10 : Int32)), .val (.int (1 : Int32))] [(.int (10 : Int32))])) _
    exact retI X0 hx Bd.returns (hb hby d16_10) hr
  · show Q16 Z  h0 n0 _ s₁.heap _
    rw [e0]
    exact ⟨rfl, N0, rfl⟩
theorem d15_0 : decode jdk_38_method_6_code 0 = .ok (.aload_n 0, 1) := by decide +kernel
theorem d15_1 : decode jdk_38_method_6_code 1 = .ok (.getfield 9, 3) := by decide +kernel
theorem d15_4 : decode jdk_38_method_6_code 4 = .ok (.arraylength, 1) := by decide +kernel
theorem d15_5 : decode jdk_38_method_6_code 5 = .ok (.istore_n 2, 1) := by decide +kernel
theorem d15_6 : decode jdk_38_method_6_code 6 = .ok (.iload_n 2, 1) := by decide +kernel
theorem d15_7 : decode jdk_38_method_6_code 7 = .ok (.ifCond .gt 13, 3) := by decide +kernel
theorem d15_10 : decode jdk_38_method_6_code 10 = .ok (.aload_n 0, 1) := by decide +kernel
theorem d15_11 : decode jdk_38_method_6_code 11 = .ok (.getfield 9, 3) := by decide +kernel
theorem d15_14 : decode jdk_38_method_6_code 14 = .ok (.getstatic 39, 3) := by decide +kernel
theorem d15_17 : decode jdk_38_method_6_code 17 = .ok (.if_acmp .eq 28, 3) := by decide +kernel
theorem d15_45 : decode jdk_38_method_6_code 45 = .ok (.aload_n 0, 1) := by decide +kernel
theorem d15_46 : decode jdk_38_method_6_code 46 = .ok (.bipush 10, 2) := by decide +kernel
theorem d15_48 : decode jdk_38_method_6_code 48 = .ok (.iload_n 1, 1) := by decide +kernel
theorem d15_49 : decode jdk_38_method_6_code 49 = .ok (.invokestatic 79, 3) := by decide +kernel
theorem pd_2 : parseMethodDescriptor "(II)I" = some ⟨[.int, .int], some .int⟩ := by decide +kernel
theorem d15_52 : decode jdk_38_method_6_code 52 = .ok (.anewarray 7, 3) := by decide +kernel
theorem d15_55 : decode jdk_38_method_6_code 55 = .ok (.dup_x1, 1) := by decide +kernel
theorem d15_56 : decode jdk_38_method_6_code 56 = .ok (.putfield 9, 3) := by decide +kernel
theorem d15_59 : decode jdk_38_method_6_code 59 = .ok (.areturn, 1) := by decide +kernel
theorem pn_15 : plainName "java/util/ArrayList" = true := by first | (simp [plainName, overriddenIn]; done) | decide +kernel
theorem ef_15_xx (m : MethodId) (x0 : Addr) (x1 : Int32) : entryFrame m #[(.ref x0), (.int x1)] 4 = mkF m 0 #[.val (.ref x0), .val (.int x1), .unset, .unset] [] := by first | (simp [entryFrame, mkF, argsToLocals, Value.category]; done) | rfl
def Q15 (Z : State) (a1 : Addr) (de : Addr) (dcl : Cell) (w : Int32) (h0 : Heap) (n0 : Nat) (v : Option Value) (h : Heap) (L : List Loc) : Prop := ∃ (b : Addr) (cl : Cell), v = some (.ref b) ∧ Fr n0 L ∧ Keep h0 h [a1] ∧ (Exa Z h a1 "java/util/ArrayList") ∧ (Fld Z h a1 "java/util/AbstractList" "modCount" "I" (.int w)) ∧ (Fld Z h a1 "java/util/ArrayList" "size" "I" (.int (0 : Int32))) ∧ (Arr Z h b cl (.object "java/lang/Object")) ∧ (n0 ≤ b) ∧ (Ovr Z cl.cls "java/lang/Object") ∧ (cl.slots.size = 10) ∧ (h0.size ≤ b)
set_option maxRecDepth 65536 in
set_option maxHeartbeats 40000000 in
theorem rm15 (l : Launch) (Z : State) (a0 : Array Value) (hw : ∀ d ∈ tables_1, d.before a0 Z = true) (ws : List Jvm.Cond) (a1 : Addr) (de : Addr) (dcl : Cell) (w : Int32) (h0 : Heap) (n0 : Nat) (Z0 : n0 ≤ h0.size) (E_a1 : Exa Z h0 a1 "java/util/ArrayList") (g_a1 : n0 ≤ a1) (O : Old Z n0 h0) (Zs_DEFAULTCAPACITY_EMPTY_ELEMENTDATA : Sta Z Z.heap "java/util/ArrayList" "DEFAULTCAPACITY_EMPTY_ELEMENTDATA" "[Ljava/lang/Object;" (.ref de)) (Ad : Arr Z Z.heap de dcl (.object "java/lang/Object")) (hd : dcl.slots.size = 0) (F_modCount_a1 : Fld Z h0 a1 "java/util/AbstractList" "modCount" "I" (.int w)) (F_elementData_a1 : Fld Z h0 a1 "java/util/ArrayList" "elementData" "[Ljava/lang/Object;" (.ref de)) (F_size_a1 : Fld Z h0 a1 "java/util/ArrayList" "size" "I" (.int (0 : Int32))) :
    MetFree l (⟨"java/util/ArrayList", "grow", "(I)[Ljava/lang/Object;"⟩ : MethodName) (head1 (Jvm.Cond.code (⟨"java/util/ArrayList", "grow", "(I)[Ljava/lang/Object;"⟩ : MethodName) jdk_38_method_6_code 4 (some (.array (.object "java/lang/Object"))) :: ws) ({ frames := 1, cells := 1, slots := 10, locals := 14 } : Room)) (fun a U => a = #[(.ref a1), (.int (1 : Int32))] ∧ Z.Warmed39 U.vm ∧ U.heap = h0) (fun _ _ _ _ _ => True) (fun _ U o U' => ∃ v L, o = .returned v ∧ Q15 Z a1 de dcl w h0 n0 v U'.heap L ∧ FrameEnd U o U' L ({ frames := 1, cells := 1, slots := 10, locals := 14 } : Room).cells ({ frames := 1, cells := 1, slots := 10, locals := 14 } : Room).slots) := by
  refine MetFree.of_bodySF (plainFor_of_name pn_15) hisR ?_
  intro p e s m args below meth c s₁ Bd hml0 hP hK
  obtain ⟨rfl, hZ, hh⟩ := hP
  have hx := Bd.exec
  have hby := Bd.bytes
  have hml : c.maxLocals = 4 := hml0
  have hown : s.vm.findClass "java/util/ArrayList" = some m.cls := findClass_of_methodNamed Bd.named
  have hnm := (name_of_methodNamed Bd.named Bd.method).1
  have X0 : Stand p l e ({ frames := 1, cells := 1, slots := 10, locals := 14 } : Room) s m #[(.ref a1), (.int (1 : Int32))] below meth c s₁ [] 0 0 := Stand.of_body Bd
  have e0 : s₁.heap = h0 := by rw [← hh, Bd.state]; rfl
  have N0 := Fr.nil n0
  have pre0 : ∀ t, Steps p.tables e below (s₁.setTop (mkF m 0 #[.val (.ref a1), .val (.int (1 : Int32)), .unset, .unset] [])) t → Steps p.tables e below (s₁.setTop (entryFrame m #[(.ref a1), (.int (1 : Int32))] 4)) t := fun t k => castTop (ef_15_xx m a1 (1 : Int32)) k
  have J1 : ∀ t, Steps p.tables e below (s₁.setTop (mkF m 1 #[.val (.ref a1), .val (.int (1 : Int32)), .unset, .unset] [(.ref a1)])) t → Steps p.tables e below (s₁.setTop (entryFrame m #[(.ref a1), (.int (1 : Int32))] 4)) t := fun t k => pre0 t (by
      show Steps p.tables e below (s₁.setTop (mkF m 0 #[.val (.ref a1), .val (.int (1 : Int32)), .unset, .unset] [])) _
      refine XS.aloadN X0.here hx rfl (hb hby d15_0) rfl rfl ?_
      exact k)
  obtain ⟨T2, X2, e2, st2⟩ := getF X0 hx hZ hown (host := "") (Or.inl (hw _ (List.mem_of_getElem? (i := 96) rfl))) Via.refl e0 F_elementData_a1 (g := (mkF m 1 #[.val (.ref a1), .val (.int (1 : Int32)), .unset, .unset] [(.ref a1)])) rfl rfl (hb hby d15_1)
  have J3 : ∀ t, Steps p.tables e below (T2.setTop (mkF m 4 #[.val (.ref a1), .val (.int (1 : Int32)), .unset, .unset] [(.ref de)])) t → Steps p.tables e below (s₁.setTop (entryFrame m #[(.ref a1), (.int (1 : Int32))] 4)) t := fun t k => J1 t (st2 t k)
  have f4 := Ad.ext O.2
  have J5 : ∀ t, Steps p.tables e below (T2.setTop (mkF m 11 #[.val (.ref a1), .val (.int (1 : Int32)), .val (.int (0 : Int32)), .unset] [(.ref a1)])) t → Steps p.tables e below (s₁.setTop (entryFrame m #[(.ref a1), (.int (1 : Int32))] 4)) t := fun t k => J3 t (by
      show Steps p.tables e below (T2.setTop (mkF m 4 #[.val (.ref a1), .val (.int (1 : Int32)), .unset, .unset] [(.ref de)])) _
      refine X2.arraylength hx (cell := dcl) (by rw [e2]; exact f4.1) (State.isArrayOf_alike hZ.alike f4.2.1) (g := (mkF m 4 #[.val (.ref a1), .val (.int (1 : Int32)), .unset, .unset] [(.ref de)])) rfl (rest := []) rfl (hb hby d15_4) _ ?_
      rw [(show dcl.slots.size.toInt32 = (0 : Int32) from by rw [hd]; rfl)]
      show Steps p.tables e below (T2.setTop (mkF m 5 #[.val (.ref a1), .val (.int (1 : Int32)), .unset, .unset] [(.int (0 : Int32))])) _
      refine XS.istoreN X2.here hx rfl (hb hby d15_5) rfl (l' := #[.val (.ref a1), .val (.int (1 : Int32)), .val (.int (0 : Int32)), .unset]) rfl ?_
      show Steps p.tables e below (T2.setTop (mkF m 6 #[.val (.ref a1), .val (.int (1 : Int32)), .val (.int (0 : Int32)), .unset] [])) _
      refine XS.iloadN X2.here hx rfl (hb hby d15_6) rfl ?_
      show Steps p.tables e below (T2.setTop (mkF m 7 #[.val (.ref a1), .val (.int (1 : Int32)), .val (.int (0 : Int32)), .unset] [(.int (0 : Int32))])) _
      refine XS.ifNo X2.here hx rfl (hb hby d15_7) rfl ((if0 _ _).trans (flt (by decide)).2.2.1) ?_
      show Steps p.tables e below (T2.setTop (mkF m 10 #[.val (.ref a1), .val (.int (1 : Int32)), .val (.int (0 : Int32)), .unset] [])) _
      refine XS.aloadN X2.here hx rfl (hb hby d15_10) rfl rfl ?_
      exact k)
  obtain ⟨T6, X6, e6, st6⟩ := getF X2 hx hZ hown (host := "") (Or.inl (hw _ (List.mem_of_getElem? (i := 96) rfl))) Via.refl e2 F_elementData_a1 (g := (mkF m 11 #[.val (.ref a1), .val (.int (1 : Int32)), .val (.int (0 : Int32)), .unset] [(.ref a1)])) rfl rfl (hb hby d15_11)
  have J7 : ∀ t, Steps p.tables e below (T6.setTop (mkF m 14 #[.val (.ref a1), .val (.int (1 : Int32)), .val (.int (0 : Int32)), .unset] [(.ref de)])) t → Steps p.tables e below (s₁.setTop (entryFrame m #[(.ref a1), (.int (1 : Int32))] 4)) t := fun t k => J5 t (st6 t k)
  obtain ⟨T8, X8, e8, st8⟩ := getS2 X6 hx hZ hown (host := "") (Or.inl (hw _ (List.mem_of_getElem? (i := 95) rfl))) Via.refl e6 (Zs_DEFAULTCAPACITY_EMPTY_ELEMENTDATA.ext O.2) (g := (mkF m 14 #[.val (.ref a1), .val (.int (1 : Int32)), .val (.int (0 : Int32)), .unset] [(.ref de)])) rfl (hb hby d15_14)
  have J9 : ∀ t, Steps p.tables e below (T8.setTop (mkF m 17 #[.val (.ref a1), .val (.int (1 : Int32)), .val (.int (0 : Int32)), .unset] [(.ref de), (.ref de)])) t → Steps p.tables e below (s₁.setTop (entryFrame m #[(.ref a1), (.int (1 : Int32))] 4)) t := fun t k => J7 t (st8 t k)
  have J10 : ∀ t, Steps p.tables e below (T8.setTop (mkF m 49 #[.val (.ref a1), .val (.int (1 : Int32)), .val (.int (0 : Int32)), .unset] [(.int (1 : Int32)), (.int (10 : Int32)), (.ref a1)])) t → Steps p.tables e below (s₁.setTop (entryFrame m #[(.ref a1), (.int (1 : Int32))] 4)) t := fun t k => J9 t (by
      show Steps p.tables e below (T8.setTop (mkF m 17 #[.val (.ref a1), .val (.int (1 : Int32)), .val (.int (0 : Int32)), .unset] [(.ref de), (.ref de)])) _
      refine Jvm.RoadKit.acmp (g := (mkF m 17 #[.val (.ref a1), .val (.int (1 : Int32)), .val (.int (0 : Int32)), .unset] [(.ref de), (.ref de)])) X8 hx rfl rfl rfl (pc0 := 17) (pc' := 45) (same := true) rfl (hb hby d15_17) rfl (decide_eq_true rfl) (by decide) (by decide) ?_
      show Steps p.tables e below (T8.setTop (mkF m 45 #[.val (.ref a1), .val (.int (1 : Int32)), .val (.int (0 : Int32)), .unset] [])) _
      refine XS.aloadN X8.here hx rfl (hb hby d15_45) rfl rfl ?_
      show Steps p.tables e below (T8.setTop (mkF m 46 #[.val (.ref a1), .val (.int (1 : Int32)), .val (.int (0 : Int32)), .unset] [(.ref a1)])) _
      refine XS.bipush X8.here hx rfl (hb hby d15_46) ?_
      show Steps p.tables e below (T8.setTop (mkF m 48 #[.val (.ref a1), .val (.int (1 : Int32)), .val (.int (0 : Int32)), .unset] [(.int (10 : Int32)), (.ref a1)])) _
      refine XS.iloadN X8.here hx rfl (hb hby d15_48) rfl ?_
      exact k)
  obtain ⟨_, _, ⟨T11, L11, k11, n11⟩, -, X11, ⟨Lc11, hQ11, l11, y11, z11⟩, st11⟩ := Jvm.LawKit.callS X8 hx (y := (⟨"java/lang/Math", "max", "(II)I"⟩ : MethodName)) hown (mvT hZ (hw _ (List.mem_of_getElem? (i := 149) rfl))) (mvT hZ (hw _ (List.mem_of_getElem? (i := 150) rfl))) (mvT hZ (hw _ (List.mem_of_getElem? (i := 151) rfl))) (mvT hZ (hw _ (List.mem_of_getElem? (i := 152) rfl))) (by decide) (backOf (W := 1) (rm16 l Z a0 hw []  h0 n0 Z0 ) hZ (hw _ (List.mem_of_getElem? (i := 152) rfl)) (hw _ (List.mem_of_getElem? (i := 151) rfl)) (by decide) (by decide)) (g := (mkF m 49 #[.val (.ref a1), .val (.int (1 : Int32)), .val (.int (0 : Int32)), .unset] [(.int (1 : Int32)), (.int (10 : Int32)), (.ref a1)])) rfl (by rw [hml]; rfl) (argsL := [(.int (10 : Int32)), (.int (1 : Int32))]) (rest := [(.ref a1)]) (lenOf pd_2 rfl) rfl (by show 2 * 0 + _ ≤ _; exact Nat.le_of_eq rfl) (hb hby d15_49) (fun _ _ => ⟨rfl, e8, (by decide : 0 + 0 ≤ _), (by decide : 0 + 0 ≤ _)⟩)
  dsimp only [Pt.U, Pt.locs, Pt.cells, Pt.slots] at X11 l11 y11 z11 st11 hQ11
  subst l11 y11 z11
  obtain ⟨rfl, Nq11, e11⟩ := hQ11
  have N12 := Fr.app N0 Nq11
  have J13 : ∀ t, Steps p.tables e below (T11.setTop (mkF m 52 #[.val (.ref a1), .val (.int (1 : Int32)), .val (.int (0 : Int32)), .unset] [(.int (10 : Int32)), (.ref a1)])) t → Steps p.tables e below (s₁.setTop (entryFrame m #[(.ref a1), (.int (1 : Int32))] 4)) t := fun t k => J10 t (st11 t k)
  obtain ⟨T14, h14, k14, X14, e14, E14, A14, O14, st14⟩ := newR X11 hx hZ hown (hw _ (List.mem_of_getElem? (i := 153) rfl)) (hw _ (List.mem_of_getElem? (i := 118) rfl)) e11 (g := (mkF m 52 #[.val (.ref a1), .val (.int (1 : Int32)), .val (.int (0 : Int32)), .unset] [(.int (10 : Int32)), (.ref a1)])) rfl (hb hby d15_52) rfl (by decide) (cap := 10) (by decide) (by decide) (by decide) (by decide)
  obtain ⟨b14, g14⟩ : ∃ z, z = h0.size := ⟨_, rfl⟩
  rw [← g14] at A14 st14
  obtain ⟨cl14, hcl14⟩ : ∃ z, z = newA k14 (.object "java/lang/Object") (10 : Int32) := ⟨_, rfl⟩
  have Aw14 : Arr Z h14 b14 cl14 (.object "java/lang/Object") := by rw [hcl14]; exact A14
  have Ov14 : Ovr Z cl14.cls "java/lang/Object" := by rw [hcl14]; exact O14
  have J15 : ∀ t, Steps p.tables e below (T14.setTop (mkF m 55 #[.val (.ref a1), .val (.int (1 : Int32)), .val (.int (0 : Int32)), .unset] [(.ref b14), (.ref a1)])) t → Steps p.tables e below (s₁.setTop (entryFrame m #[(.ref a1), (.int (1 : Int32))] 4)) t := fun t k => J13 t (st14 t k)
  have ne16 : a1 ≠ b14 := Nat.ne_of_lt (Nat.lt_of_lt_of_le E_a1.lt (Nat.le_of_eq g14.symm))
  have ne17 : de ≠ b14 := Nat.ne_of_lt (Nat.lt_of_lt_of_le f4.lt (Nat.le_of_eq g14.symm))
  have ge18 : n0 ≤ b14 := Nat.le_trans Z0 (Nat.le_of_eq g14.symm)
  have sz19 : h0.size ≤ b14 := Nat.le_trans (Keep.refl h0 [a1]).1 (Nat.le_of_eq g14.symm)
  have Z20 : n0 ≤ h14.size := Nat.le_trans Z0 E14.1
  have KK21 : Keep h0 h14 [a1] := (Keep.refl h0 [a1]).ext E14
  have J22 : ∀ t, Steps p.tables e below (T14.setTop (mkF m 56 #[.val (.ref a1), .val (.int (1 : Int32)), .val (.int (0 : Int32)), .unset] [(.ref b14), (.ref a1), (.ref b14)])) t → Steps p.tables e below (s₁.setTop (entryFrame m #[(.ref a1), (.int (1 : Int32))] 4)) t := fun t k => J15 t (by
      show Steps p.tables e below (T14.setTop (mkF m 55 #[.val (.ref a1), .val (.int (1 : Int32)), .val (.int (0 : Int32)), .unset] [(.ref b14), (.ref a1)])) _
      refine XS.dupX1 X14.here hx rfl (hb hby d15_55) rfl rfl rfl ?_
      exact k)
  have f23 := F_elementData_a1.ext E14
  have f24 := E_a1.ext E14
  obtain ⟨T25, h25, X25, e25, W25, st25⟩ := putF X14 hx hZ hown (host := "") (Or.inl (hw _ (List.mem_of_getElem? (i := 96) rfl))) Via.refl e14 f23 f24 (Or.inl (hw _ (List.mem_of_getElem? (i := 97) rfl))) (hw _ (List.mem_of_getElem? (i := 75) rfl)) (ty := (.array (.object "java/lang/Object"))) (by decide) rfl rfl (g := (mkF m 56 #[.val (.ref a1), .val (.int (1 : Int32)), .val (.int (0 : Int32)), .unset] [(.ref b14), (.ref a1), (.ref b14)])) rfl rfl (hb hby d15_56)
  have J26 : ∀ t, Steps p.tables e below (T25.setTop (mkF m 59 #[.val (.ref a1), .val (.int (1 : Int32)), .val (.int (0 : Int32)), .unset] [(.ref b14)])) t → Steps p.tables e below (s₁.setTop (entryFrame m #[(.ref a1), (.int (1 : Int32))] 4)) t := fun t k => J22 t (st25 t k)
  have Z27 : n0 ≤ h25.size := Nat.le_trans Z20 (Keep.of_wr W25).1
  have KK28 : Keep h0 h25 [a1] := KK21.wr W25 (Or.inl (List.mem_of_getElem? (i := 0) rfl))
  have N29 := Fr.snoc X25 N12 g_a1
  have Fw25 := f23.same W25
  obtain ⟨fs, hr, hrun, hended, hW, hsame⟩ := X25.leave (v := some (.ref b14)) (fun h => by rw [Bd.returns] at h; cases h)
  have f30 := f24.wr W25
  have f31 := F_modCount_a1.ext E14
  have f32 := f31.other W25 (Or.inr (slot_ne (Or.inl (hw _ (List.mem_of_getElem? (i := 94) rfl))) (Or.inl (hw _ (List.mem_of_getElem? (i := 97) rfl))) (by decide) (t := .int) (t' := (.array (.object "java/lang/Object"))) (by decide) (by decide)))
  have f33 := F_size_a1.ext E14
  have f34 := f33.other W25 (Or.inr (slot_ne (Or.inl (hw _ (List.mem_of_getElem? (i := 133) rfl))) (Or.inl (hw _ (List.mem_of_getElem? (i := 97) rfl))) (by decide) (t := .int) (t' := (.array (.object "java/lang/Object"))) (by decide) (by decide)))
  have f35 := Aw14.other W25 (Ne.symm ne16)
  refine ⟨_, _, J26 _ ?_, hrun, hended, _, _, rfl, ?_, ⟨_, rfl⟩, hW, hsame.mono (by decide) (by decide)⟩
  · show Steps p.tables e below (T25.setTop (mkF m 59 #[.val (.ref a1), .val (.int (1 : Int32)), .val (.int (0 : Int32)), .unset] [(.ref b14)])) _
    jvm_step X25.here [X25.here.top, hx, (hb hby d15_59), X25.method', Bd.returns, Value.isRef, FieldType.isReference]
    first | (intro acts; rw [hr _ acts rfl rfl rfl]) | rw [hr _ _ rfl rfl rfl]
    exact Steps.refl _
  · show Q15 Z a1 de dcl w h0 n0 _ T25.heap _
    rw [e25]
    exact ⟨b14, cl14, rfl, N29, KK28, f30, f32, f34, f35, ge18, Ov14, (by rw [hcl14, sz_new]; decide), sz19⟩
theorem d14_0 : decode jdk_38_method_7_code 0 = .ok (.aload_n 0, 1) := by decide +kernel
theorem d14_1 : decode jdk_38_method_7_code 1 = .ok (.aload_n 0, 1) := by decide +kernel
theorem d14_2 : decode jdk_38_method_7_code 2 = .ok (.getfield 48, 3) := by decide +kernel
theorem d14_5 : decode jdk_38_method_7_code 5 = .ok (.iconst 1, 1) := by decide +kernel
theorem d14_6 : decode jdk_38_method_7_code 6 = .ok (.iadd, 1) := by decide +kernel
theorem d14_7 : decode jdk_38_method_7_code 7 = .ok (.invokevirtual 69, 3) := by decide +kernel
theorem pd_3 : parseMethodDescriptor "(I)[Ljava/lang/Object;" = some ⟨[.int], some (.array (.object "java/lang/Object"))⟩ := by decide +kernel
theorem d14_10 : decode jdk_38_method_7_code 10 = .ok (.areturn, 1) := by decide +kernel
theorem pn_14 : plainName "java/util/ArrayList" = true := by first | (simp [plainName, overriddenIn]; done) | decide +kernel
theorem ef_14_x (m : MethodId) (x0 : Addr) : entryFrame m #[(.ref x0)] 1 = mkF m 0 #[.val (.ref x0)] [] := by first | (simp [entryFrame, mkF, argsToLocals, Value.category]; done) | rfl
def Q14 (Z : State) (a1 : Addr) (de : Addr) (dcl : Cell) (w : Int32) (h0 : Heap) (n0 : Nat) (v : Option Value) (h : Heap) (L : List Loc) : Prop := ∃ (b : Addr) (cl : Cell), v = some (.ref b) ∧ Fr n0 L ∧ Keep h0 h [a1] ∧ (Exa Z h a1 "java/util/ArrayList") ∧ (Fld Z h a1 "java/util/AbstractList" "modCount" "I" (.int w)) ∧ (Fld Z h a1 "java/util/ArrayList" "size" "I" (.int (0 : Int32))) ∧ (Arr Z h b cl (.object "java/lang/Object")) ∧ (n0 ≤ b) ∧ (Ovr Z cl.cls "java/lang/Object") ∧ (cl.slots.size = 10) ∧ (h0.size ≤ b)
set_option maxRecDepth 65536 in
set_option maxHeartbeats 40000000 in
theorem rm14 (l : Launch) (Z : State) (a0 : Array Value) (hw : ∀ d ∈ tables_1, d.before a0 Z = true) (ws : List Jvm.Cond) (a1 : Addr) (de : Addr) (dcl : Cell) (w : Int32) (h0 : Heap) (n0 : Nat) (Z0 : n0 ≤ h0.size) (E_a1 : Exa Z h0 a1 "java/util/ArrayList") (g_a1 : n0 ≤ a1) (O : Old Z n0 h0) (Zs_DEFAULTCAPACITY_EMPTY_ELEMENTDATA : Sta Z Z.heap "java/util/ArrayList" "DEFAULTCAPACITY_EMPTY_ELEMENTDATA" "[Ljava/lang/Object;" (.ref de)) (Ad : Arr Z Z.heap de dcl (.object "java/lang/Object")) (hd : dcl.slots.size = 0) (F_modCount_a1 : Fld Z h0 a1 "java/util/AbstractList" "modCount" "I" (.int w)) (F_elementData_a1 : Fld Z h0 a1 "java/util/ArrayList" "elementData" "[Ljava/lang/Object;" (.ref de)) (F_size_a1 : Fld Z h0 a1 "java/util/ArrayList" "size" "I" (.int (0 : Int32))) :
    MetFree l (⟨"java/util/ArrayList", "grow", "()[Ljava/lang/Object;"⟩ : MethodName) (head1 (Jvm.Cond.code (⟨"java/util/ArrayList", "grow", "()[Ljava/lang/Object;"⟩ : MethodName) jdk_38_method_7_code 1 (some (.array (.object "java/lang/Object"))) :: ws) ({ frames := 2, cells := 1, slots := 10, locals := 29 } : Room)) (fun a U => a = #[(.ref a1)] ∧ Z.Warmed39 U.vm ∧ U.heap = h0) (fun _ _ _ _ _ => True) (fun _ U o U' => ∃ v L, o = .returned v ∧ Q14 Z a1 de dcl w h0 n0 v U'.heap L ∧ FrameEnd U o U' L ({ frames := 2, cells := 1, slots := 10, locals := 29 } : Room).cells ({ frames := 2, cells := 1, slots := 10, locals := 29 } : Room).slots) := by
  refine MetFree.of_bodySF (plainFor_of_name pn_14) hisR ?_
  intro p e s m args below meth c s₁ Bd hml0 hP hK
  obtain ⟨rfl, hZ, hh⟩ := hP
  have hx := Bd.exec
  have hby := Bd.bytes
  have hml : c.maxLocals = 1 := hml0
  have hown : s.vm.findClass "java/util/ArrayList" = some m.cls := findClass_of_methodNamed Bd.named
  have hnm := (name_of_methodNamed Bd.named Bd.method).1
  have X0 : Stand p l e ({ frames := 2, cells := 1, slots := 10, locals := 29 } : Room) s m #[(.ref a1)] below meth c s₁ [] 0 0 := Stand.of_body Bd
  have e0 : s₁.heap = h0 := by rw [← hh, Bd.state]; rfl
  have N0 := Fr.nil n0
  have pre0 : ∀ t, Steps p.tables e below (s₁.setTop (mkF m 0 #[.val (.ref a1)] [])) t → Steps p.tables e below (s₁.setTop (entryFrame m #[(.ref a1)] 1)) t := fun t k => castTop (ef_14_x m a1) k
  have J1 : ∀ t, Steps p.tables e below (s₁.setTop (mkF m 2 #[.val (.ref a1)] [(.ref a1), (.ref a1)])) t → Steps p.tables e below (s₁.setTop (entryFrame m #[(.ref a1)] 1)) t := fun t k => pre0 t (by
      show Steps p.tables e below (s₁.setTop (mkF m 0 #[.val (.ref a1)] [])) _
      refine XS.aloadN X0.here hx rfl (hb hby d14_0) rfl rfl ?_
      show Steps p.tables e below (s₁.setTop (mkF m 1 #[.val (.ref a1)] [(.ref a1)])) _
      refine XS.aloadN X0.here hx rfl (hb hby d14_1) rfl rfl ?_
      exact k)
  obtain ⟨T2, X2, e2, st2⟩ := getF X0 hx hZ hown (host := "") (Or.inl (hw _ (List.mem_of_getElem? (i := 132) rfl))) Via.refl e0 F_size_a1 (g := (mkF m 2 #[.val (.ref a1)] [(.ref a1), (.ref a1)])) rfl rfl (hb hby d14_2)
  have J3 : ∀ t, Steps p.tables e below (T2.setTop (mkF m 5 #[.val (.ref a1)] [(.int (0 : Int32)), (.ref a1)])) t → Steps p.tables e below (s₁.setTop (entryFrame m #[(.ref a1)] 1)) t := fun t k => J1 t (st2 t k)
  have J4 : ∀ t, Steps p.tables e below (T2.setTop (mkF m 7 #[.val (.ref a1)] [(.int ((0 : Int32) + (1 : Int32))), (.ref a1)])) t → Steps p.tables e below (s₁.setTop (entryFrame m #[(.ref a1)] 1)) t := fun t k => J3 t (by
      show Steps p.tables e below (T2.setTop (mkF m 5 #[.val (.ref a1)] [(.int (0 : Int32)), (.ref a1)])) _
      refine XS.iconst X2.here hx rfl (hb hby d14_5) ?_
      show Steps p.tables e below (T2.setTop (mkF m 6 #[.val (.ref a1)] [(.int (1 : Int32)), (.int (0 : Int32)), (.ref a1)])) _
      refine XS.iadd X2.here hx rfl (hb hby d14_6) rfl ?_
      exact k)
  have J5 : ∀ t, Steps p.tables e below (T2.setTop (mkF m 7 #[.val (.ref a1)] [(.int (1 : Int32)), (.ref a1)])) t → Steps p.tables e below (s₁.setTop (entryFrame m #[(.ref a1)] 1)) t := fun t k => J4 t (by rw [(by decide : ((0 : Int32) + (1 : Int32)) = (1 : Int32))]; exact k)
  obtain ⟨cq6, q6, q6'⟩ := E_a1.cell
  obtain ⟨_, _, ⟨T6, L6, k6, n6⟩, -, X6, ⟨Lc6, hQ6, l6, y6, z6⟩, st6⟩ := X2.privateBack hx (y := (⟨"java/util/ArrayList", "grow", "(I)[Ljava/lang/Object;"⟩ : MethodName)) hown (mvT hZ (hw _ (List.mem_of_getElem? (i := 144) rfl))) (mvT hZ (hw _ (List.mem_of_getElem? (i := 145) rfl))) (mvT hZ (hw _ (List.mem_of_getElem? (i := 147) rfl))) (Cond.privateMethod_at (mvP hZ (hw _ (List.mem_of_getElem? (i := 146) rfl)) (args := #[]))) (mvT hZ (hw _ (List.mem_of_getElem? (i := 148) rfl))) (by decide) (backOf (W := 0) (rm15 l Z a0 hw [] a1 de dcl w h0 n0 Z0 E_a1 g_a1 O Zs_DEFAULTCAPACITY_EMPTY_ELEMENTDATA Ad hd F_modCount_a1 F_elementData_a1 F_size_a1) hZ (hw _ (List.mem_of_getElem? (i := 148) rfl)) (hw _ (List.mem_of_getElem? (i := 76) rfl)) (by decide) (by decide)) (g := (mkF m 7 #[.val (.ref a1)] [(.int (1 : Int32)), (.ref a1)])) rfl (by rw [hml]; rfl) (Steps.refl _) (a := a1) (by rw [e2]; exact q6) q6' (argsL := [(.int (1 : Int32))]) (rest := []) (lenOf pd_3 rfl) rfl (by show 2 * 0 + _ ≤ _; exact Nat.le_of_eq rfl) (hb hby d14_7) (fun _ _ => ⟨rfl, e2, (by decide : 0 + 1 ≤ _), (by decide : 0 + 10 ≤ _)⟩)
  dsimp only [Pt.U, Pt.locs, Pt.cells, Pt.slots] at X6 l6 y6 z6 st6 hQ6
  subst l6 y6 z6
  obtain ⟨b_6, cl_6, rfl, Nq6, K6, p6_1, p6_2, p6_3, p6_4, p6_5, p6_6, p6_7, p6_8⟩ := hQ6
  have N7 := Fr.app N0 Nq6
  have J8 : ∀ t, Steps p.tables e below (T6.setTop (mkF m 10 #[.val (.ref a1)] [(.ref b_6)])) t → Steps p.tables e below (s₁.setTop (entryFrame m #[(.ref a1)] 1)) t := fun t k => J5 t (st6.trans k)
  have Z9 : n0 ≤ T6.heap.size := Nat.le_trans Z0 K6.1
  have KK10 : Keep h0 T6.heap [a1] := (Keep.refl h0 [a1]).trans K6 (allS (Or.inl (List.mem_of_getElem? (i := 0) rfl)) all0)
  obtain ⟨fs, hr, hrun, hended, hW, hsame⟩ := X6.leave (v := some (.ref b_6)) (fun h => by rw [Bd.returns] at h; cases h)
  refine ⟨_, _, J8 _ ?_, hrun, hended, _, _, rfl, ?_, ⟨_, rfl⟩, hW, hsame.mono (by decide) (by decide)⟩
  · show Steps p.tables e below (T6.setTop (mkF m 10 #[.val (.ref a1)] [(.ref b_6)])) _
    jvm_step X6.here [X6.here.top, hx, (hb hby d14_10), X6.method', Bd.returns, Value.isRef, FieldType.isReference]
    first | (intro acts; rw [hr _ acts rfl rfl rfl]) | rw [hr _ _ rfl rfl rfl]
    exact Steps.refl _
  · show Q14 Z a1 de dcl w h0 n0 _ T6.heap _
    exact ⟨b_6, cl_6, rfl, N7, KK10, p6_1, p6_2, p6_3, p6_4, p6_5, p6_6, p6_7, p6_8⟩
theorem d13_0 : decode jdk_38_method_24_code 0 = .ok (.iload_n 3, 1) := by decide +kernel
theorem d13_1 : decode jdk_38_method_24_code 1 = .ok (.aload_n 2, 1) := by decide +kernel
theorem d13_2 : decode jdk_38_method_24_code 2 = .ok (.arraylength, 1) := by decide +kernel
theorem d13_3 : decode jdk_38_method_24_code 3 = .ok (.if_icmp .ne 8, 3) := by decide +kernel
theorem d13_6 : decode jdk_38_method_24_code 6 = .ok (.aload_n 0, 1) := by decide +kernel
theorem d13_7 : decode jdk_38_method_24_code 7 = .ok (.invokevirtual 129, 3) := by decide +kernel
theorem pd_4 : parseMethodDescriptor "()[Ljava/lang/Object;" = some ⟨[], some (.array (.object "java/lang/Object"))⟩ := by decide +kernel
theorem d13_10 : decode jdk_38_method_24_code 10 = .ok (.astore_n 2, 1) := by decide +kernel
theorem d13_11 : decode jdk_38_method_24_code 11 = .ok (.aload_n 2, 1) := by decide +kernel
theorem d13_12 : decode jdk_38_method_24_code 12 = .ok (.iload_n 3, 1) := by decide +kernel
theorem d13_13 : decode jdk_38_method_24_code 13 = .ok (.aload_n 1, 1) := by decide +kernel
theorem d13_14 : decode jdk_38_method_24_code 14 = .ok (.aastore, 1) := by decide +kernel
theorem d13_15 : decode jdk_38_method_24_code 15 = .ok (.aload_n 0, 1) := by decide +kernel
theorem d13_16 : decode jdk_38_method_24_code 16 = .ok (.iload_n 3, 1) := by decide +kernel
theorem d13_17 : decode jdk_38_method_24_code 17 = .ok (.iconst 1, 1) := by decide +kernel
theorem d13_18 : decode jdk_38_method_24_code 18 = .ok (.iadd, 1) := by decide +kernel
theorem d13_19 : decode jdk_38_method_24_code 19 = .ok (.putfield 48, 3) := by decide +kernel
theorem d13_22 : decode jdk_38_method_24_code 22 = .ok (.return_, 1) := by decide +kernel
theorem pn_13 : plainName "java/util/ArrayList" = true := by first | (simp [plainName, overriddenIn]; done) | decide +kernel
theorem ef_13_xxxx (m : MethodId) (x0 : Addr) (x1 : Addr) (x2 : Addr) (x3 : Int32) : entryFrame m #[(.ref x0), (.ref x1), (.ref x2), (.int x3)] 4 = mkF m 0 #[.val (.ref x0), .val (.ref x1), .val (.ref x2), .val (.int x3)] [] := by first | (simp [entryFrame, mkF, argsToLocals, Value.category]; done) | rfl
def Q13 (Z : State) (a1 : Addr) (de : Addr) (dcl : Cell) (w : Int32) (x : Addr) (h0 : Heap) (n0 : Nat) (v : Option Value) (h : Heap) (L : List Loc) : Prop := v = none ∧ Fr n0 L ∧ Keep h0 h [a1] ∧ (Exa Z h a1 "java/util/ArrayList")
set_option maxRecDepth 65536 in
set_option maxHeartbeats 40000000 in
theorem rm13 (l : Launch) (Z : State) (a0 : Array Value) (hw : ∀ d ∈ tables_1, d.before a0 Z = true) (ws : List Jvm.Cond) (a1 : Addr) (de : Addr) (dcl : Cell) (w : Int32) (x : Addr) (h0 : Heap) (n0 : Nat) (Z0 : n0 ≤ h0.size) (E_a1 : Exa Z h0 a1 "java/util/ArrayList") (g_a1 : n0 ≤ a1) (O : Old Z n0 h0) (Zs_DEFAULTCAPACITY_EMPTY_ELEMENTDATA : Sta Z Z.heap "java/util/ArrayList" "DEFAULTCAPACITY_EMPTY_ELEMENTDATA" "[Ljava/lang/Object;" (.ref de)) (Ad : Arr Z Z.heap de dcl (.object "java/lang/Object")) (hd : dcl.slots.size = 0) (F_modCount_a1 : Fld Z h0 a1 "java/util/AbstractList" "modCount" "I" (.int w)) (F_elementData_a1 : Fld Z h0 a1 "java/util/ArrayList" "elementData" "[Ljava/lang/Object;" (.ref de)) (F_size_a1 : Fld Z h0 a1 "java/util/ArrayList" "size" "I" (.int (0 : Int32))) (E_x : Exa Z h0 x "java/util/ArrayDeque") (ne_x_a1 : x ≠ a1) :
    MetFree l (⟨"java/util/ArrayList", "add", "(Ljava/lang/Object;[Ljava/lang/Object;I)V"⟩ : MethodName) (head1 (Jvm.Cond.code (⟨"java/util/ArrayList", "add", "(Ljava/lang/Object;[Ljava/lang/Object;I)V"⟩ : MethodName) jdk_38_method_24_code 4 none :: ws) ({ frames := 3, cells := 1, slots := 10, locals := 41 } : Room)) (fun a U => a = #[(.ref a1), (.ref x), (.ref de), (.int (0 : Int32))] ∧ Z.Warmed39 U.vm ∧ U.heap = h0) (fun _ _ _ _ _ => True) (fun _ U o U' => ∃ v L, o = .returned v ∧ Q13 Z a1 de dcl w x h0 n0 v U'.heap L ∧ FrameEnd U o U' L ({ frames := 3, cells := 1, slots := 10, locals := 41 } : Room).cells ({ frames := 3, cells := 1, slots := 10, locals := 41 } : Room).slots) := by
  refine MetFree.of_bodySF (plainFor_of_name pn_13) hisR ?_
  intro p e s m args below meth c s₁ Bd hml0 hP hK
  obtain ⟨rfl, hZ, hh⟩ := hP
  have hx := Bd.exec
  have hby := Bd.bytes
  have hml : c.maxLocals = 4 := hml0
  have hown : s.vm.findClass "java/util/ArrayList" = some m.cls := findClass_of_methodNamed Bd.named
  have hnm := (name_of_methodNamed Bd.named Bd.method).1
  have X0 : Stand p l e ({ frames := 3, cells := 1, slots := 10, locals := 41 } : Room) s m #[(.ref a1), (.ref x), (.ref de), (.int (0 : Int32))] below meth c s₁ [] 0 0 := Stand.of_body Bd
  have e0 : s₁.heap = h0 := by rw [← hh, Bd.state]; rfl
  have N0 := Fr.nil n0
  have pre0 : ∀ t, Steps p.tables e below (s₁.setTop (mkF m 0 #[.val (.ref a1), .val (.ref x), .val (.ref de), .val (.int (0 : Int32))] [])) t → Steps p.tables e below (s₁.setTop (entryFrame m #[(.ref a1), (.ref x), (.ref de), (.int (0 : Int32))] 4)) t := fun t k => castTop (ef_13_xxxx m a1 x de (0 : Int32)) k
  have J1 : ∀ t, Steps p.tables e below (s₁.setTop (mkF m 2 #[.val (.ref a1), .val (.ref x), .val (.ref de), .val (.int (0 : Int32))] [(.ref de), (.int (0 : Int32))])) t → Steps p.tables e below (s₁.setTop (entryFrame m #[(.ref a1), (.ref x), (.ref de), (.int (0 : Int32))] 4)) t := fun t k => pre0 t (by
      show Steps p.tables e below (s₁.setTop (mkF m 0 #[.val (.ref a1), .val (.ref x), .val (.ref de), .val (.int (0 : Int32))] [])) _
      refine XS.iloadN X0.here hx rfl (hb hby d13_0) rfl ?_
      show Steps p.tables e below (s₁.setTop (mkF m 1 #[.val (.ref a1), .val (.ref x), .val (.ref de), .val (.int (0 : Int32))] [(.int (0 : Int32))])) _
      refine XS.aloadN X0.here hx rfl (hb hby d13_1) rfl rfl ?_
      exact k)
  have f2 := Ad.ext O.2
  have J3 : ∀ t, Steps p.tables e below (s₁.setTop (mkF m 7 #[.val (.ref a1), .val (.ref x), .val (.ref de), .val (.int (0 : Int32))] [(.ref a1)])) t → Steps p.tables e below (s₁.setTop (entryFrame m #[(.ref a1), (.ref x), (.ref de), (.int (0 : Int32))] 4)) t := fun t k => J1 t (by
      show Steps p.tables e below (s₁.setTop (mkF m 2 #[.val (.ref a1), .val (.ref x), .val (.ref de), .val (.int (0 : Int32))] [(.ref de), (.int (0 : Int32))])) _
      refine X0.arraylength hx (cell := dcl) (by rw [e0]; exact f2.1) (State.isArrayOf_alike hZ.alike f2.2.1) (g := (mkF m 2 #[.val (.ref a1), .val (.ref x), .val (.ref de), .val (.int (0 : Int32))] [(.ref de), (.int (0 : Int32))])) rfl (rest := [(.int (0 : Int32))]) rfl (hb hby d13_2) _ ?_
      rw [(show dcl.slots.size.toInt32 = (0 : Int32) from by rw [hd]; rfl)]
      show Steps p.tables e below (s₁.setTop (mkF m 3 #[.val (.ref a1), .val (.ref x), .val (.ref de), .val (.int (0 : Int32))] [(.int (0 : Int32)), (.int (0 : Int32))])) _
      refine XS.icmpNo X0.here hx rfl (hb hby d13_3) rfl (teq rfl).2 ?_
      show Steps p.tables e below (s₁.setTop (mkF m 6 #[.val (.ref a1), .val (.ref x), .val (.ref de), .val (.int (0 : Int32))] [])) _
      refine XS.aloadN X0.here hx rfl (hb hby d13_6) rfl rfl ?_
      exact k)
  obtain ⟨cq4, q4, q4'⟩ := E_a1.cell
  obtain ⟨_, _, ⟨T4, L4, k4, n4⟩, -, X4, ⟨Lc4, hQ4, l4, y4, z4⟩, st4⟩ := X0.privateBack hx (y := (⟨"java/util/ArrayList", "grow", "()[Ljava/lang/Object;"⟩ : MethodName)) hown (mvT hZ (hw _ (List.mem_of_getElem? (i := 139) rfl))) (mvT hZ (hw _ (List.mem_of_getElem? (i := 140) rfl))) (mvT hZ (hw _ (List.mem_of_getElem? (i := 142) rfl))) (Cond.privateMethod_at (mvP hZ (hw _ (List.mem_of_getElem? (i := 141) rfl)) (args := #[]))) (mvT hZ (hw _ (List.mem_of_getElem? (i := 143) rfl))) (by decide) (backOf (W := 0) (rm14 l Z a0 hw [] a1 de dcl w h0 n0 Z0 E_a1 g_a1 O Zs_DEFAULTCAPACITY_EMPTY_ELEMENTDATA Ad hd F_modCount_a1 F_elementData_a1 F_size_a1) hZ (hw _ (List.mem_of_getElem? (i := 143) rfl)) (hw _ (List.mem_of_getElem? (i := 76) rfl)) (by decide) (by decide)) (g := (mkF m 7 #[.val (.ref a1), .val (.ref x), .val (.ref de), .val (.int (0 : Int32))] [(.ref a1)])) rfl (by rw [hml]; rfl) (Steps.refl _) (a := a1) (by rw [e0]; exact q4) q4' (argsL := []) (rest := []) (lenOf pd_4 rfl) rfl (by show 2 * 0 + _ ≤ _; exact Nat.le_of_eq rfl) (hb hby d13_7) (fun _ _ => ⟨rfl, e0, (by decide : 0 + 1 ≤ _), (by decide : 0 + 10 ≤ _)⟩)
  dsimp only [Pt.U, Pt.locs, Pt.cells, Pt.slots] at X4 l4 y4 z4 st4 hQ4
  subst l4 y4 z4
  obtain ⟨b_4, cl_4, rfl, Nq4, K4, p4_1, p4_2, p4_3, p4_4, p4_5, p4_6, p4_7, p4_8⟩ := hQ4
  have N5 := Fr.app N0 Nq4
  have J6 : ∀ t, Steps p.tables e below (T4.setTop (mkF m 10 #[.val (.ref a1), .val (.ref x), .val (.ref de), .val (.int (0 : Int32))] [(.ref b_4)])) t → Steps p.tables e below (s₁.setTop (entryFrame m #[(.ref a1), (.ref x), (.ref de), (.int (0 : Int32))] 4)) t := fun t k => J3 t (st4.trans k)
  have Z7 : n0 ≤ T4.heap.size := Nat.le_trans Z0 K4.1
  have KK8 : Keep h0 T4.heap [a1] := (Keep.refl h0 [a1]).trans K4 (allS (Or.inl (List.mem_of_getElem? (i := 0) rfl)) all0)
  have J9 : ∀ t, Steps p.tables e below (T4.setTop (mkF m 14 #[.val (.ref a1), .val (.ref x), .val (.ref b_4), .val (.int (0 : Int32))] [(.ref x), (.int (0 : Int32)), (.ref b_4)])) t → Steps p.tables e below (s₁.setTop (entryFrame m #[(.ref a1), (.ref x), (.ref de), (.int (0 : Int32))] 4)) t := fun t k => J6 t (by
      show Steps p.tables e below (T4.setTop (mkF m 10 #[.val (.ref a1), .val (.ref x), .val (.ref de), .val (.int (0 : Int32))] [(.ref b_4)])) _
      refine XS.astoreN X4.here hx rfl (hb hby d13_10) rfl rfl (l' := #[.val (.ref a1), .val (.ref x), .val (.ref b_4), .val (.int (0 : Int32))]) rfl ?_
      show Steps p.tables e below (T4.setTop (mkF m 11 #[.val (.ref a1), .val (.ref x), .val (.ref b_4), .val (.int (0 : Int32))] [])) _
      refine XS.aloadN X4.here hx rfl (hb hby d13_11) rfl rfl ?_
      show Steps p.tables e below (T4.setTop (mkF m 12 #[.val (.ref a1), .val (.ref x), .val (.ref b_4), .val (.int (0 : Int32))] [(.ref b_4)])) _
      refine XS.iloadN X4.here hx rfl (hb hby d13_12) rfl ?_
      show Steps p.tables e below (T4.setTop (mkF m 13 #[.val (.ref a1), .val (.ref x), .val (.ref b_4), .val (.int (0 : Int32))] [(.int (0 : Int32)), (.ref b_4)])) _
      refine XS.aloadN X4.here hx rfl (hb hby d13_13) rfl rfl ?_
      exact k)
  have f10 := E_x.keep K4
  obtain ⟨T11, h11, X11, e11, W11, st11⟩ := stR X4 hx hZ rfl p4_4 (j := (0 : Int32)) (by rw [p4_7]; decide) rfl (Sto.of p4_4 p4_6 (Ins.of_exa f10 (hw _ (List.mem_of_getElem? (i := 154) rfl)))) (g := (mkF m 14 #[.val (.ref a1), .val (.ref x), .val (.ref b_4), .val (.int (0 : Int32))] [(.ref x), (.int (0 : Int32)), (.ref b_4)])) rfl rfl (hb hby d13_14)
  have J12 : ∀ t, Steps p.tables e below (T11.setTop (mkF m 15 #[.val (.ref a1), .val (.ref x), .val (.ref b_4), .val (.int (0 : Int32))] [])) t → Steps p.tables e below (s₁.setTop (entryFrame m #[(.ref a1), (.ref x), (.ref de), (.int (0 : Int32))] 4)) t := fun t k => J9 t (st11 t k)
  have Z13 : n0 ≤ h11.size := Nat.le_trans Z7 (Keep.of_wr W11).1
  have KK14 : Keep h0 h11 [a1] := KK8.wr W11 (Or.inr p4_8)
  have N15 := Fr.snoc X11 N5 p4_5
  obtain ⟨cl11, hcl11⟩ : ∃ z, z = cl_4.setSlot ((0 : Int32)).toNatClampNeg (.ref x) := ⟨_, rfl⟩
  have Aw11 : Arr Z h11 b_4 cl11 (.object "java/lang/Object") := by rw [hcl11]; exact p4_4.same W11
  have J16 : ∀ t, Steps p.tables e below (T11.setTop (mkF m 19 #[.val (.ref a1), .val (.ref x), .val (.ref b_4), .val (.int (0 : Int32))] [(.int ((0 : Int32) + (1 : Int32))), (.ref a1)])) t → Steps p.tables e below (s₁.setTop (entryFrame m #[(.ref a1), (.ref x), (.ref de), (.int (0 : Int32))] 4)) t := fun t k => J12 t (by
      show Steps p.tables e below (T11.setTop (mkF m 15 #[.val (.ref a1), .val (.ref x), .val (.ref b_4), .val (.int (0 : Int32))] [])) _
      refine XS.aloadN X11.here hx rfl (hb hby d13_15) rfl rfl ?_
      show Steps p.tables e below (T11.setTop (mkF m 16 #[.val (.ref a1), .val (.ref x), .val (.ref b_4), .val (.int (0 : Int32))] [(.ref a1)])) _
      refine XS.iloadN X11.here hx rfl (hb hby d13_16) rfl ?_
      show Steps p.tables e below (T11.setTop (mkF m 17 #[.val (.ref a1), .val (.ref x), .val (.ref b_4), .val (.int (0 : Int32))] [(.int (0 : Int32)), (.ref a1)])) _
      refine XS.iconst X11.here hx rfl (hb hby d13_17) ?_
      show Steps p.tables e below (T11.setTop (mkF m 18 #[.val (.ref a1), .val (.ref x), .val (.ref b_4), .val (.int (0 : Int32))] [(.int (1 : Int32)), (.int (0 : Int32)), (.ref a1)])) _
      refine XS.iadd X11.here hx rfl (hb hby d13_18) rfl ?_
      exact k)
  have f17 := p4_3.other W11 (Or.inl (Nat.ne_of_lt (Nat.lt_of_lt_of_le E_a1.lt p4_8)))
  have f18 := p4_1.wr W11
  obtain ⟨T19, h19, X19, e19, W19, st19⟩ := putF X11 hx hZ hown (host := "") (Or.inl (hw _ (List.mem_of_getElem? (i := 132) rfl))) Via.refl e11 f17 f18 (Or.inl (hw _ (List.mem_of_getElem? (i := 133) rfl))) (hw _ (List.mem_of_getElem? (i := 75) rfl)) (ty := .int) (by decide) rfl rfl (g := (mkF m 19 #[.val (.ref a1), .val (.ref x), .val (.ref b_4), .val (.int (0 : Int32))] [(.int ((0 : Int32) + (1 : Int32))), (.ref a1)])) rfl rfl (hb hby d13_19)
  have J20 : ∀ t, Steps p.tables e below (T19.setTop (mkF m 22 #[.val (.ref a1), .val (.ref x), .val (.ref b_4), .val (.int (0 : Int32))] [])) t → Steps p.tables e below (s₁.setTop (entryFrame m #[(.ref a1), (.ref x), (.ref de), (.int (0 : Int32))] 4)) t := fun t k => J16 t (st19 t k)
  have Z21 : n0 ≤ h19.size := Nat.le_trans Z13 (Keep.of_wr W19).1
  have KK22 : Keep h0 h19 [a1] := KK14.wr W19 (Or.inl (List.mem_of_getElem? (i := 0) rfl))
  have N23 := Fr.snoc X19 N15 g_a1
  have Fw19 := f17.same W19
  obtain ⟨fs, hr, hrun, hended, hW, hsame⟩ := X19.leave (v := none) (fun _ => rfl)
  have f24 := f18.wr W19
  refine ⟨_, _, J20 _ ?_, hrun, hended, _, _, rfl, ?_, ⟨_, rfl⟩, hW, hsame.mono (by decide) (by decide)⟩
  · show Steps p.tables e below (T19.setTop (mkF m 22 #[.val (.ref a1), .val (.ref x), .val (.ref b_4), .val (.int (0 : Int32))] [])) _
    exact X19.returnOut hx Bd.returns (hb hby d13_22) hr
  · show Q13 Z a1 de dcl w x h0 n0 _ T19.heap _
    rw [e19]
    exact ⟨rfl, N23, KK22, f24⟩
theorem d12_0 : decode jdk_38_method_25_code 0 = .ok (.aload_n 0, 1) := by decide +kernel
theorem d12_1 : decode jdk_38_method_25_code 1 = .ok (.dup, 1) := by decide +kernel
theorem d12_2 : decode jdk_38_method_25_code 2 = .ok (.getfield 63, 3) := by decide +kernel
theorem d12_5 : decode jdk_38_method_25_code 5 = .ok (.iconst 1, 1) := by decide +kernel
theorem d12_6 : decode jdk_38_method_25_code 6 = .ok (.iadd, 1) := by decide +kernel
theorem d12_7 : decode jdk_38_method_25_code 7 = .ok (.putfield 63, 3) := by decide +kernel
theorem d12_10 : decode jdk_38_method_25_code 10 = .ok (.aload_n 0, 1) := by decide +kernel
theorem d12_11 : decode jdk_38_method_25_code 11 = .ok (.aload_n 1, 1) := by decide +kernel
theorem d12_12 : decode jdk_38_method_25_code 12 = .ok (.aload_n 0, 1) := by decide +kernel
theorem d12_13 : decode jdk_38_method_25_code 13 = .ok (.getfield 9, 3) := by decide +kernel
theorem d12_16 : decode jdk_38_method_25_code 16 = .ok (.aload_n 0, 1) := by decide +kernel
theorem d12_17 : decode jdk_38_method_25_code 17 = .ok (.getfield 48, 3) := by decide +kernel
theorem d12_20 : decode jdk_38_method_25_code 20 = .ok (.invokevirtual 131, 3) := by decide +kernel
theorem pd_5 : parseMethodDescriptor "(Ljava/lang/Object;[Ljava/lang/Object;I)V" = some ⟨[(.object "java/lang/Object"), (.array (.object "java/lang/Object")), .int], none⟩ := by decide +kernel
theorem d12_23 : decode jdk_38_method_25_code 23 = .ok (.iconst 1, 1) := by decide +kernel
theorem d12_24 : decode jdk_38_method_25_code 24 = .ok (.ireturn, 1) := by decide +kernel
theorem pn_12 : plainName "java/util/ArrayList" = true := by first | (simp [plainName, overriddenIn]; done) | decide +kernel
theorem ef_12_xx (m : MethodId) (x0 : Addr) (x1 : Addr) : entryFrame m #[(.ref x0), (.ref x1)] 2 = mkF m 0 #[.val (.ref x0), .val (.ref x1)] [] := by first | (simp [entryFrame, mkF, argsToLocals, Value.category]; done) | rfl
def Q12 (Z : State) (a1 : Addr) (de : Addr) (dcl : Cell) (w : Int32) (x : Addr) (h0 : Heap) (n0 : Nat) (v : Option Value) (h : Heap) (L : List Loc) : Prop := v = some (.int (1 : Int32)) ∧ Fr n0 L ∧ Keep h0 h [a1] ∧ (Exa Z h a1 "java/util/ArrayList")
set_option maxRecDepth 65536 in
set_option maxHeartbeats 40000000 in
theorem rm12 (l : Launch) (Z : State) (a0 : Array Value) (hw : ∀ d ∈ tables_1, d.before a0 Z = true) (ws : List Jvm.Cond) (a1 : Addr) (de : Addr) (dcl : Cell) (w : Int32) (x : Addr) (h0 : Heap) (n0 : Nat) (Z0 : n0 ≤ h0.size) (E_a1 : Exa Z h0 a1 "java/util/ArrayList") (g_a1 : n0 ≤ a1) (O : Old Z n0 h0) (Zs_DEFAULTCAPACITY_EMPTY_ELEMENTDATA : Sta Z Z.heap "java/util/ArrayList" "DEFAULTCAPACITY_EMPTY_ELEMENTDATA" "[Ljava/lang/Object;" (.ref de)) (Ad : Arr Z Z.heap de dcl (.object "java/lang/Object")) (hd : dcl.slots.size = 0) (F_modCount_a1 : Fld Z h0 a1 "java/util/AbstractList" "modCount" "I" (.int w)) (F_elementData_a1 : Fld Z h0 a1 "java/util/ArrayList" "elementData" "[Ljava/lang/Object;" (.ref de)) (F_size_a1 : Fld Z h0 a1 "java/util/ArrayList" "size" "I" (.int (0 : Int32))) (E_x : Exa Z h0 x "java/util/ArrayDeque") (ne_x_a1 : x ≠ a1) :
    MetFree l (⟨"java/util/ArrayList", "add", "(Ljava/lang/Object;)Z"⟩ : MethodName) (head1 (Jvm.Cond.code (⟨"java/util/ArrayList", "add", "(Ljava/lang/Object;)Z"⟩ : MethodName) jdk_38_method_25_code 2 (some .boolean) :: ws) ({ frames := 4, cells := 1, slots := 10, locals := 56 } : Room)) (fun a U => a = #[(.ref a1), (.ref x)] ∧ Z.Warmed39 U.vm ∧ U.heap = h0) (fun _ _ _ _ _ => True) (fun _ U o U' => ∃ v L, o = .returned v ∧ Q12 Z a1 de dcl w x h0 n0 v U'.heap L ∧ FrameEnd U o U' L ({ frames := 4, cells := 1, slots := 10, locals := 56 } : Room).cells ({ frames := 4, cells := 1, slots := 10, locals := 56 } : Room).slots) := by
  refine MetFree.of_bodySF (plainFor_of_name pn_12) hisR ?_
  intro p e s m args below meth c s₁ Bd hml0 hP hK
  obtain ⟨rfl, hZ, hh⟩ := hP
  have hx := Bd.exec
  have hby := Bd.bytes
  have hml : c.maxLocals = 2 := hml0
  have hown : s.vm.findClass "java/util/ArrayList" = some m.cls := findClass_of_methodNamed Bd.named
  have hnm := (name_of_methodNamed Bd.named Bd.method).1
  have X0 : Stand p l e ({ frames := 4, cells := 1, slots := 10, locals := 56 } : Room) s m #[(.ref a1), (.ref x)] below meth c s₁ [] 0 0 := Stand.of_body Bd
  have e0 : s₁.heap = h0 := by rw [← hh, Bd.state]; rfl
  have N0 := Fr.nil n0
  have pre0 : ∀ t, Steps p.tables e below (s₁.setTop (mkF m 0 #[.val (.ref a1), .val (.ref x)] [])) t → Steps p.tables e below (s₁.setTop (entryFrame m #[(.ref a1), (.ref x)] 2)) t := fun t k => castTop (ef_12_xx m a1 x) k
  have J1 : ∀ t, Steps p.tables e below (s₁.setTop (mkF m 2 #[.val (.ref a1), .val (.ref x)] [(.ref a1), (.ref a1)])) t → Steps p.tables e below (s₁.setTop (entryFrame m #[(.ref a1), (.ref x)] 2)) t := fun t k => pre0 t (by
      show Steps p.tables e below (s₁.setTop (mkF m 0 #[.val (.ref a1), .val (.ref x)] [])) _
      refine XS.aloadN X0.here hx rfl (hb hby d12_0) rfl rfl ?_
      show Steps p.tables e below (s₁.setTop (mkF m 1 #[.val (.ref a1), .val (.ref x)] [(.ref a1)])) _
      refine XS.dup X0.here hx rfl (hb hby d12_1) rfl rfl ?_
      exact k)
  obtain ⟨T2, X2, e2, st2⟩ := getF X0 hx hZ hown (host := "") (Or.inl (hw _ (List.mem_of_getElem? (i := 130) rfl))) (Via.of (hw _ (List.mem_of_getElem? (i := 131) rfl))) e0 F_modCount_a1 (g := (mkF m 2 #[.val (.ref a1), .val (.ref x)] [(.ref a1), (.ref a1)])) rfl rfl (hb hby d12_2)
  have J3 : ∀ t, Steps p.tables e below (T2.setTop (mkF m 5 #[.val (.ref a1), .val (.ref x)] [(.int w), (.ref a1)])) t → Steps p.tables e below (s₁.setTop (entryFrame m #[(.ref a1), (.ref x)] 2)) t := fun t k => J1 t (st2 t k)
  have J4 : ∀ t, Steps p.tables e below (T2.setTop (mkF m 7 #[.val (.ref a1), .val (.ref x)] [(.int (w + (1 : Int32))), (.ref a1)])) t → Steps p.tables e below (s₁.setTop (entryFrame m #[(.ref a1), (.ref x)] 2)) t := fun t k => J3 t (by
      show Steps p.tables e below (T2.setTop (mkF m 5 #[.val (.ref a1), .val (.ref x)] [(.int w), (.ref a1)])) _
      refine XS.iconst X2.here hx rfl (hb hby d12_5) ?_
      show Steps p.tables e below (T2.setTop (mkF m 6 #[.val (.ref a1), .val (.ref x)] [(.int (1 : Int32)), (.int w), (.ref a1)])) _
      refine XS.iadd X2.here hx rfl (hb hby d12_6) rfl ?_
      exact k)
  obtain ⟨T5, h5, X5, e5, W5, st5⟩ := putF X2 hx hZ hown (host := "") (Or.inl (hw _ (List.mem_of_getElem? (i := 130) rfl))) (Via.of (hw _ (List.mem_of_getElem? (i := 131) rfl))) e2 F_modCount_a1 E_a1 (Or.inl (hw _ (List.mem_of_getElem? (i := 94) rfl))) (hw _ (List.mem_of_getElem? (i := 75) rfl)) (ty := .int) (by decide) rfl rfl (g := (mkF m 7 #[.val (.ref a1), .val (.ref x)] [(.int (w + (1 : Int32))), (.ref a1)])) rfl rfl (hb hby d12_7)
  have J6 : ∀ t, Steps p.tables e below (T5.setTop (mkF m 10 #[.val (.ref a1), .val (.ref x)] [])) t → Steps p.tables e below (s₁.setTop (entryFrame m #[(.ref a1), (.ref x)] 2)) t := fun t k => J4 t (st5 t k)
  have Z7 : n0 ≤ h5.size := Nat.le_trans Z0 (Keep.of_wr W5).1
  have KK8 : Keep h0 h5 [a1] := (Keep.refl h0 [a1]).wr W5 (Or.inl (List.mem_of_getElem? (i := 0) rfl))
  have N9 := Fr.snoc X5 N0 g_a1
  have Fw5 := F_modCount_a1.same W5
  have J10 : ∀ t, Steps p.tables e below (T5.setTop (mkF m 13 #[.val (.ref a1), .val (.ref x)] [(.ref a1), (.ref x), (.ref a1)])) t → Steps p.tables e below (s₁.setTop (entryFrame m #[(.ref a1), (.ref x)] 2)) t := fun t k => J6 t (by
      show Steps p.tables e below (T5.setTop (mkF m 10 #[.val (.ref a1), .val (.ref x)] [])) _
      refine XS.aloadN X5.here hx rfl (hb hby d12_10) rfl rfl ?_
      show Steps p.tables e below (T5.setTop (mkF m 11 #[.val (.ref a1), .val (.ref x)] [(.ref a1)])) _
      refine XS.aloadN X5.here hx rfl (hb hby d12_11) rfl rfl ?_
      show Steps p.tables e below (T5.setTop (mkF m 12 #[.val (.ref a1), .val (.ref x)] [(.ref x), (.ref a1)])) _
      refine XS.aloadN X5.here hx rfl (hb hby d12_12) rfl rfl ?_
      exact k)
  have f11 := F_elementData_a1.other W5 (Or.inr (slot_ne (Or.inl (hw _ (List.mem_of_getElem? (i := 97) rfl))) (Or.inl (hw _ (List.mem_of_getElem? (i := 94) rfl))) (by decide) (t := (.array (.object "java/lang/Object"))) (t' := .int) (by decide) (by decide)))
  obtain ⟨T12, X12, e12, st12⟩ := getF X5 hx hZ hown (host := "") (Or.inl (hw _ (List.mem_of_getElem? (i := 96) rfl))) Via.refl e5 f11 (g := (mkF m 13 #[.val (.ref a1), .val (.ref x)] [(.ref a1), (.ref x), (.ref a1)])) rfl rfl (hb hby d12_13)
  have J13 : ∀ t, Steps p.tables e below (T12.setTop (mkF m 16 #[.val (.ref a1), .val (.ref x)] [(.ref de), (.ref x), (.ref a1)])) t → Steps p.tables e below (s₁.setTop (entryFrame m #[(.ref a1), (.ref x)] 2)) t := fun t k => J10 t (st12 t k)
  have J14 : ∀ t, Steps p.tables e below (T12.setTop (mkF m 17 #[.val (.ref a1), .val (.ref x)] [(.ref a1), (.ref de), (.ref x), (.ref a1)])) t → Steps p.tables e below (s₁.setTop (entryFrame m #[(.ref a1), (.ref x)] 2)) t := fun t k => J13 t (by
      show Steps p.tables e below (T12.setTop (mkF m 16 #[.val (.ref a1), .val (.ref x)] [(.ref de), (.ref x), (.ref a1)])) _
      refine XS.aloadN X12.here hx rfl (hb hby d12_16) rfl rfl ?_
      exact k)
  have f15 := F_size_a1.other W5 (Or.inr (slot_ne (Or.inl (hw _ (List.mem_of_getElem? (i := 133) rfl))) (Or.inl (hw _ (List.mem_of_getElem? (i := 94) rfl))) (by decide) (t := .int) (t' := .int) (by decide) (by decide)))
  obtain ⟨T16, X16, e16, st16⟩ := getF X12 hx hZ hown (host := "") (Or.inl (hw _ (List.mem_of_getElem? (i := 132) rfl))) Via.refl e12 f15 (g := (mkF m 17 #[.val (.ref a1), .val (.ref x)] [(.ref a1), (.ref de), (.ref x), (.ref a1)])) rfl rfl (hb hby d12_17)
  have J17 : ∀ t, Steps p.tables e below (T16.setTop (mkF m 20 #[.val (.ref a1), .val (.ref x)] [(.int (0 : Int32)), (.ref de), (.ref x), (.ref a1)])) t → Steps p.tables e below (s₁.setTop (entryFrame m #[(.ref a1), (.ref x)] 2)) t := fun t k => J14 t (st16 t k)
  have f18 := E_a1.wr W5
  have f19 := O.wr W5 g_a1
  have f20 := E_x.wr W5
  obtain ⟨cq21, q21, q21'⟩ := f18.cell
  obtain ⟨_, _, ⟨T21, L21, k21, n21⟩, -, X21, ⟨Lc21, hQ21, l21, y21, z21⟩, st21⟩ := X16.privateBack hx (y := (⟨"java/util/ArrayList", "add", "(Ljava/lang/Object;[Ljava/lang/Object;I)V"⟩ : MethodName)) hown (mvT hZ (hw _ (List.mem_of_getElem? (i := 134) rfl))) (mvT hZ (hw _ (List.mem_of_getElem? (i := 135) rfl))) (mvT hZ (hw _ (List.mem_of_getElem? (i := 137) rfl))) (Cond.privateMethod_at (mvP hZ (hw _ (List.mem_of_getElem? (i := 136) rfl)) (args := #[]))) (mvT hZ (hw _ (List.mem_of_getElem? (i := 138) rfl))) (by decide) (backOf (W := 0) (rm13 l Z a0 hw [] a1 de dcl (w + (1 : Int32)) x h5 n0 Z7 f18 g_a1 f19 Zs_DEFAULTCAPACITY_EMPTY_ELEMENTDATA Ad hd Fw5 f11 f15 f20 ne_x_a1) hZ (hw _ (List.mem_of_getElem? (i := 138) rfl)) (hw _ (List.mem_of_getElem? (i := 76) rfl)) (by decide) (by decide)) (g := (mkF m 20 #[.val (.ref a1), .val (.ref x)] [(.int (0 : Int32)), (.ref de), (.ref x), (.ref a1)])) rfl (by rw [hml]; rfl) (Steps.refl _) (a := a1) (by rw [e16]; exact q21) q21' (argsL := [(.ref x), (.ref de), (.int (0 : Int32))]) (rest := []) (lenOf pd_5 rfl) rfl (by show 2 * 0 + _ ≤ _; exact Nat.le_of_eq rfl) (hb hby d12_20) (fun _ _ => ⟨rfl, e16, (by decide : 0 + 1 ≤ _), (by decide : 0 + 10 ≤ _)⟩)
  dsimp only [Pt.U, Pt.locs, Pt.cells, Pt.slots] at X21 l21 y21 z21 st21 hQ21
  subst l21 y21 z21
  obtain ⟨rfl, Nq21, K21, p21_1⟩ := hQ21
  have N22 := Fr.app N9 Nq21
  have J23 : ∀ t, Steps p.tables e below (T21.setTop (mkF m 23 #[.val (.ref a1), .val (.ref x)] [])) t → Steps p.tables e below (s₁.setTop (entryFrame m #[(.ref a1), (.ref x)] 2)) t := fun t k => J17 t (st21.trans k)
  have Z24 : n0 ≤ T21.heap.size := Nat.le_trans Z7 K21.1
  have KK25 : Keep h0 T21.heap [a1] := KK8.trans K21 (allS (Or.inl (List.mem_of_getElem? (i := 0) rfl)) all0)
  have J26 : ∀ t, Steps p.tables e below (T21.setTop (mkF m 24 #[.val (.ref a1), .val (.ref x)] [(.int (1 : Int32))])) t → Steps p.tables e below (s₁.setTop (entryFrame m #[(.ref a1), (.ref x)] 2)) t := fun t k => J23 t (by
      show Steps p.tables e below (T21.setTop (mkF m 23 #[.val (.ref a1), .val (.ref x)] [])) _
      refine XS.iconst X21.here hx rfl (hb hby d12_23) ?_
      exact k)
  obtain ⟨fs, hr, hrun, hended, hW, hsame⟩ := X21.leave (v := some (.int (1 : Int32))) (fun h => by rw [Bd.returns] at h; cases h)
  refine ⟨_, _, J26 _ ?_, hrun, hended, _, _, rfl, ?_, ⟨_, rfl⟩, hW, hsame.mono (by decide) (by decide)⟩
  · show Steps p.tables e below (T21.setTop (mkF m 24 #[.val (.ref a1), .val (.ref x)] [(.int (1 : Int32))])) _
    exact retN X21 hx (t := .boolean) Bd.returns (by simp) (hb hby d12_24) hr
  · show Q12 Z a1 de dcl w x h0 n0 _ T21.heap _
    exact ⟨rfl, N22, KK25, p21_1⟩
theorem d6_0 : decode prog_8_method_1_code 0 = .ok (.aload_n 0, 1) := by decide +kernel
theorem d6_1 : decode prog_8_method_1_code 1 = .ok (.invokespecial 1, 3) := by decide +kernel
theorem d6_4 : decode prog_8_method_1_code 4 = .ok (.aload_n 0, 1) := by decide +kernel
theorem d6_5 : decode prog_8_method_1_code 5 = .ok (.new 7, 3) := by decide +kernel
theorem d6_8 : decode prog_8_method_1_code 8 = .ok (.dup, 1) := by decide +kernel
theorem d6_9 : decode prog_8_method_1_code 9 = .ok (.invokespecial 9, 3) := by decide +kernel
theorem d6_12 : decode prog_8_method_1_code 12 = .ok (.putfield 10, 3) := by decide +kernel
theorem d6_15 : decode prog_8_method_1_code 15 = .ok (.aload_n 0, 1) := by decide +kernel
theorem d6_16 : decode prog_8_method_1_code 16 = .ok (.aload_n 1, 1) := by decide +kernel
theorem d6_17 : decode prog_8_method_1_code 17 = .ok (.putfield 16, 3) := by decide +kernel
theorem d6_20 : decode prog_8_method_1_code 20 = .ok (.aload_n 0, 1) := by decide +kernel
theorem d6_21 : decode prog_8_method_1_code 21 = .ok (.dload_n 2, 1) := by decide +kernel
theorem d6_22 : decode prog_8_method_1_code 22 = .ok (.putfield 20, 3) := by decide +kernel
theorem d6_25 : decode prog_8_method_1_code 25 = .ok (.iconst 0, 1) := by decide +kernel
theorem d6_26 : decode prog_8_method_1_code 26 = .ok (.istore 4, 2) := by decide +kernel
theorem d6_28 : decode prog_8_method_1_code 28 = .ok (.iload 4, 2) := by decide +kernel
theorem d6_30 : decode prog_8_method_1_code 30 = .ok (.aload_n 1, 1) := by decide +kernel
theorem d6_31 : decode prog_8_method_1_code 31 = .ok (.invokevirtual 24, 3) := by decide +kernel
theorem pd_6 : parseMethodDescriptor "()I" = some ⟨[], some .int⟩ := by decide +kernel
theorem d6_34 : decode prog_8_method_1_code 34 = .ok (.if_icmp .ge 26, 3) := by decide +kernel
theorem d6_37 : decode prog_8_method_1_code 37 = .ok (.aload_n 0, 1) := by decide +kernel
theorem d6_38 : decode prog_8_method_1_code 38 = .ok (.getfield 10, 3) := by decide +kernel
theorem d6_41 : decode prog_8_method_1_code 41 = .ok (.new 30, 3) := by decide +kernel
theorem d6_44 : decode prog_8_method_1_code 44 = .ok (.dup, 1) := by decide +kernel
theorem d6_45 : decode prog_8_method_1_code 45 = .ok (.invokespecial 32, 3) := by decide +kernel
theorem d6_48 : decode prog_8_method_1_code 48 = .ok (.invokeinterface 33 2, 5) := by decide +kernel
theorem pd_7 : parseMethodDescriptor "(Ljava/lang/Object;)Z" = some ⟨[(.object "java/lang/Object")], some .boolean⟩ := by decide +kernel
theorem d6_53 : decode prog_8_method_1_code 53 = .ok (.pop, 1) := by decide +kernel
theorem d6_54 : decode prog_8_method_1_code 54 = .ok (.iinc 4 1, 3) := by decide +kernel
theorem d6_57 : decode prog_8_method_1_code 57 = .ok (.goto (-29), 3) := by decide +kernel
theorem d6_60 : decode prog_8_method_1_code 60 = .ok (.return_, 1) := by decide +kernel
theorem pn_6 : plainName "com/example/graded_flow/gradedflow/microscopic/Entry" = true := by first | (simp [plainName, overriddenIn]; done) | decide +kernel
theorem ef_6_xxx (m : MethodId) (x0 : Addr) (x1 : Addr) (x2 : UInt64) : entryFrame m #[(.ref x0), (.ref x1), (.double x2)] 5 = mkF m 0 #[.val (.ref x0), .val (.ref x1), .val (.double x2), .second, .unset] [] := by first | (simp [entryFrame, mkF, argsToLocals, Value.category]; done) | rfl
def Q6 (Z : State) (a1 : Addr) (a2 : Addr) (de : Addr) (dcl : Cell) (u1 : Value) (u2 : Value) (u3 : Value) (h0 : Heap) (n0 : Nat) (v : Option Value) (h : Heap) (L : List Loc) : Prop := v = none ∧ Fr n0 L ∧ Keep h0 h [a1] ∧ (Exa Z h a1 "com/example/graded_flow/gradedflow/microscopic/Entry") ∧ (Fld Z h a1 "com/example/graded_flow/gradedflow/microscopic/Entry" "link" "Lcom/example/graded_flow/gradedflow/network/Link;" (.ref a2)) ∧ (Fld Z h a1 "com/example/graded_flow/gradedflow/microscopic/Entry" "macroStep" "D" (.double own_3600)) ∧ (Fld Z h a1 "com/example/graded_flow/gradedflow/microscopic/Entry" "entering" "D" (.double (0 : UInt64))) ∧ (Fld Z h a1 "com/example/graded_flow/gradedflow/microscopic/Entry" "upstreamDensity" "D" (.double (0 : UInt64))) ∧ (Fld Z h a1 "com/example/graded_flow/gradedflow/microscopic/Entry" "remainder" "D" (.double (0 : UInt64))) ∧ (Fld Z h a1 "com/example/graded_flow/gradedflow/microscopic/Entry" "created" "I" (.int (0 : Int32)))
set_option maxRecDepth 65536 in
set_option maxHeartbeats 40000000 in
theorem rm6 (l : Launch) (Z : State) (a0 : Array Value) (hw : ∀ d ∈ tables_1, d.before a0 Z = true) (ws : List Jvm.Cond) (a1 : Addr) (a2 : Addr) (de : Addr) (dcl : Cell) (u1 : Value) (u2 : Value) (u3 : Value) (h0 : Heap) (n0 : Nat) (Z0 : n0 ≤ h0.size) (E_a1 : Exa Z h0 a1 "com/example/graded_flow/gradedflow/microscopic/Entry") (g_a1 : n0 ≤ a1) (E_a2 : Exa Z h0 a2 "com/example/graded_flow/gradedflow/network/Link") (F_lanes_a2 : Fld Z h0 a2 "com/example/graded_flow/gradedflow/network/Link" "lanes" "I" (.int (1 : Int32))) (ne_a2_a1 : a2 ≠ a1) (O : Old Z n0 h0) (Zs_DEFAULTCAPACITY_EMPTY_ELEMENTDATA : Sta Z Z.heap "java/util/ArrayList" "DEFAULTCAPACITY_EMPTY_ELEMENTDATA" "[Ljava/lang/Object;" (.ref de)) (Ad : Arr Z Z.heap de dcl (.object "java/lang/Object")) (hd : dcl.slots.size = 0) (F_waiting_a1 : Fld Z h0 a1 "com/example/graded_flow/gradedflow/microscopic/Entry" "waiting" "Ljava/util/List;" u1) (F_link_a1 : Fld Z h0 a1 "com/example/graded_flow/gradedflow/microscopic/Entry" "link" "Lcom/example/graded_flow/gradedflow/network/Link;" u2) (F_macroStep_a1 : Fld Z h0 a1 "com/example/graded_flow/gradedflow/microscopic/Entry" "macroStep" "D" u3) (F_entering_a1 : Fld Z h0 a1 "com/example/graded_flow/gradedflow/microscopic/Entry" "entering" "D" (.double (0 : UInt64))) (F_upstreamDensity_a1 : Fld Z h0 a1 "com/example/graded_flow/gradedflow/microscopic/Entry" "upstreamDensity" "D" (.double (0 : UInt64))) (F_remainder_a1 : Fld Z h0 a1 "com/example/graded_flow/gradedflow/microscopic/Entry" "remainder" "D" (.double (0 : UInt64))) (F_created_a1 : Fld Z h0 a1 "com/example/graded_flow/gradedflow/microscopic/Entry" "created" "I" (.int (0 : Int32))) :
    MetFree l (⟨"com/example/graded_flow/gradedflow/microscopic/Entry", "<init>", "(Lcom/example/graded_flow/gradedflow/network/Link;D)V"⟩ : MethodName) (head1 (Jvm.Cond.code (⟨"com/example/graded_flow/gradedflow/microscopic/Entry", "<init>", "(Lcom/example/graded_flow/gradedflow/network/Link;D)V"⟩ : MethodName) prog_8_method_1_code 5 none :: ws) ({ frames := 5, cells := 4, slots := 33, locals := 69 } : Room)) (fun a U => a = #[(.ref a1), (.ref a2), (.double own_3600)] ∧ Z.Warmed39 U.vm ∧ U.heap = h0) (fun _ _ _ _ _ => True) (fun _ U o U' => ∃ v L, o = .returned v ∧ Q6 Z a1 a2 de dcl u1 u2 u3 h0 n0 v U'.heap L ∧ FrameEnd U o U' L ({ frames := 5, cells := 4, slots := 33, locals := 69 } : Room).cells ({ frames := 5, cells := 4, slots := 33, locals := 69 } : Room).slots) := by
  refine MetFree.of_bodySF (plainFor_of_name pn_6) hisR ?_
  intro p e s m args below meth c s₁ Bd hml0 hP hK
  obtain ⟨rfl, hZ, hh⟩ := hP
  have hx := Bd.exec
  have hby := Bd.bytes
  have hml : c.maxLocals = 5 := hml0
  have hown : s.vm.findClass "com/example/graded_flow/gradedflow/microscopic/Entry" = some m.cls := findClass_of_methodNamed Bd.named
  have hnm := (name_of_methodNamed Bd.named Bd.method).1
  have X0 : Stand p l e ({ frames := 5, cells := 4, slots := 33, locals := 69 } : Room) s m #[(.ref a1), (.ref a2), (.double own_3600)] below meth c s₁ [] 0 0 := Stand.of_body Bd
  have e0 : s₁.heap = h0 := by rw [← hh, Bd.state]; rfl
  have N0 := Fr.nil n0
  have pre0 : ∀ t, Steps p.tables e below (s₁.setTop (mkF m 0 #[.val (.ref a1), .val (.ref a2), .val (.double own_3600), .second, .unset] [])) t → Steps p.tables e below (s₁.setTop (entryFrame m #[(.ref a1), (.ref a2), (.double own_3600)] 5)) t := fun t k => castTop (ef_6_xxx m a1 a2 own_3600) k
  have J1 : ∀ t, Steps p.tables e below (s₁.setTop (mkF m 1 #[.val (.ref a1), .val (.ref a2), .val (.double own_3600), .second, .unset] [(.ref a1)])) t → Steps p.tables e below (s₁.setTop (entryFrame m #[(.ref a1), (.ref a2), (.double own_3600)] 5)) t := fun t k => pre0 t (by
      show Steps p.tables e below (s₁.setTop (mkF m 0 #[.val (.ref a1), .val (.ref a2), .val (.double own_3600), .second, .unset] [])) _
      refine XS.aloadN X0.here hx rfl (hb hby d6_0) rfl rfl ?_
      exact k)
  obtain ⟨T2, X2, e2, st2⟩ := initO X0 hx hZ hown (hw _ (List.mem_of_getElem? (i := 73) rfl)) (hw _ (List.mem_of_getElem? (i := 15) rfl)) (hw _ (List.mem_of_getElem? (i := 16) rfl)) e0 (g := (mkF m 1 #[.val (.ref a1), .val (.ref a2), .val (.double own_3600), .second, .unset] [(.ref a1)])) rfl (by rw [hml]; rfl) rfl (hb hby d6_1) (by decide) (W := 0) (by show 2 * 0 + _ ≤ _; exact Nat.le_of_eq rfl) (by decide)
  have J3 : ∀ t, Steps p.tables e below (T2.setTop (mkF m 4 #[.val (.ref a1), .val (.ref a2), .val (.double own_3600), .second, .unset] [])) t → Steps p.tables e below (s₁.setTop (entryFrame m #[(.ref a1), (.ref a2), (.double own_3600)] 5)) t := fun t k => J1 t (st2 t k)
  have J4 : ∀ t, Steps p.tables e below (T2.setTop (mkF m 5 #[.val (.ref a1), .val (.ref a2), .val (.double own_3600), .second, .unset] [(.ref a1)])) t → Steps p.tables e below (s₁.setTop (entryFrame m #[(.ref a1), (.ref a2), (.double own_3600)] 5)) t := fun t k => J3 t (by
      show Steps p.tables e below (T2.setTop (mkF m 4 #[.val (.ref a1), .val (.ref a2), .val (.double own_3600), .second, .unset] [])) _
      refine XS.aloadN X2.here hx rfl (hb hby d6_4) rfl rfl ?_
      exact k)
  obtain ⟨T5, h5, X5, e5, E5, A5, D5, -, st5⟩ := newO X2 hx hZ hown (hw _ (List.mem_of_getElem? (i := 74) rfl)) (hw _ (List.mem_of_getElem? (i := 75) rfl)) (hw _ (List.mem_of_getElem? (i := 76) rfl)) e2 (g := (mkF m 5 #[.val (.ref a1), .val (.ref a2), .val (.double own_3600), .second, .unset] [(.ref a1)])) rfl (hb hby d6_5) (by decide) (by decide)
  obtain ⟨b5, g5⟩ : ∃ z, z = h0.size := ⟨_, rfl⟩
  rw [← g5] at A5 D5 st5
  have J6 : ∀ t, Steps p.tables e below (T5.setTop (mkF m 8 #[.val (.ref a1), .val (.ref a2), .val (.double own_3600), .second, .unset] [(.ref b5), (.ref a1)])) t → Steps p.tables e below (s₁.setTop (entryFrame m #[(.ref a1), (.ref a2), (.double own_3600)] 5)) t := fun t k => J4 t (st5 t k)
  have ne7 : a1 ≠ b5 := Nat.ne_of_lt (Nat.lt_of_lt_of_le E_a1.lt (Nat.le_of_eq g5.symm))
  have ne8 : a2 ≠ b5 := Nat.ne_of_lt (Nat.lt_of_lt_of_le E_a2.lt (Nat.le_of_eq g5.symm))
  have ge9 : n0 ≤ b5 := Nat.le_trans Z0 (Nat.le_of_eq g5.symm)
  have sz10 : h0.size ≤ b5 := Nat.le_trans (Keep.refl h0 [a1]).1 (Nat.le_of_eq g5.symm)
  have Z11 : n0 ≤ h5.size := Nat.le_trans Z0 E5.1
  have KK12 : Keep h0 h5 [a1] := (Keep.refl h0 [a1]).ext E5
  have F5_modCount : Fld Z h5 b5 "java/util/AbstractList" "modCount" "I" (.int (0 : Int32)) := D5 (Or.inl (hw _ (List.mem_of_getElem? (i := 94) rfl))) (ty := .int) (by decide)
  have F5_elementData : Fld Z h5 b5 "java/util/ArrayList" "elementData" "[Ljava/lang/Object;" .null := D5 (Or.inl (hw _ (List.mem_of_getElem? (i := 97) rfl))) (ty := (.array (.object "java/lang/Object"))) (by decide)
  have F5_size : Fld Z h5 b5 "java/util/ArrayList" "size" "I" (.int (0 : Int32)) := D5 (Or.inl (hw _ (List.mem_of_getElem? (i := 133) rfl))) (ty := .int) (by decide)
  have J13 : ∀ t, Steps p.tables e below (T5.setTop (mkF m 9 #[.val (.ref a1), .val (.ref a2), .val (.double own_3600), .second, .unset] [(.ref b5), (.ref b5), (.ref a1)])) t → Steps p.tables e below (s₁.setTop (entryFrame m #[(.ref a1), (.ref a2), (.double own_3600)] 5)) t := fun t k => J6 t (by
      show Steps p.tables e below (T5.setTop (mkF m 8 #[.val (.ref a1), .val (.ref a2), .val (.double own_3600), .second, .unset] [(.ref b5), (.ref a1)])) _
      refine XS.dup X5.here hx rfl (hb hby d6_8) rfl rfl ?_
      exact k)
  have f14 := O.ext E5
  obtain ⟨_, _, ⟨T15, L15, k15, n15⟩, -, X15, ⟨Lc15, hQ15, l15, y15, z15⟩, st15⟩ := X5.specialBack hx (y := (⟨"java/util/ArrayList", "<init>", "()V"⟩ : MethodName)) rfl hown (mvT hZ (hw _ (List.mem_of_getElem? (i := 77) rfl))) (mvT hZ (hw _ (List.mem_of_getElem? (i := 78) rfl))) (mvT hZ (hw _ (List.mem_of_getElem? (i := 79) rfl))) (by decide) (backOf (W := 2) (rm7 l Z a0 hw [] b5 de (.int (0 : Int32)) .null (0 : Int32) h5 n0 Z11 A5 ge9 f14 Zs_DEFAULTCAPACITY_EMPTY_ELEMENTDATA F5_modCount F5_elementData F5_size) hZ (hw _ (List.mem_of_getElem? (i := 79) rfl)) (hw _ (List.mem_of_getElem? (i := 76) rfl)) (by decide) (by decide)) (g := (mkF m 9 #[.val (.ref a1), .val (.ref a2), .val (.double own_3600), .second, .unset] [(.ref b5), (.ref b5), (.ref a1)])) rfl (by rw [hml]; rfl) (Steps.refl _) (a := b5) (argsL := []) (rest := [(.ref b5), (.ref a1)]) (lenOf pd_0 rfl) rfl (by show 2 * 0 + _ ≤ _; exact Nat.le_of_eq rfl) (hb hby d6_9) (fun _ _ => ⟨rfl, e5, (by decide : 1 + 0 ≤ _), (by decide : 3 + 0 ≤ _)⟩)
  dsimp only [Pt.U, Pt.locs, Pt.cells, Pt.slots] at X15 l15 y15 z15 st15 hQ15
  subst l15 y15 z15
  obtain ⟨rfl, Nq15, K15, p15_1, p15_2, p15_3, p15_4⟩ := hQ15
  have N16 := Fr.app N0 Nq15
  have J17 : ∀ t, Steps p.tables e below (T15.setTop (mkF m 12 #[.val (.ref a1), .val (.ref a2), .val (.double own_3600), .second, .unset] [(.ref b5), (.ref a1)])) t → Steps p.tables e below (s₁.setTop (entryFrame m #[(.ref a1), (.ref a2), (.double own_3600)] 5)) t := fun t k => J13 t (st15.trans k)
  have Z18 : n0 ≤ T15.heap.size := Nat.le_trans Z11 K15.1
  have KK19 : Keep h0 T15.heap [a1] := KK12.trans K15 (allS (Or.inr sz10) all0)
  have f20 := F_waiting_a1.ext E5
  have f21 := f20.keep K15 (ninS ne7 nin0)
  have f22 := E_a1.ext E5
  have f23 := f22.keep K15
  obtain ⟨T24, h24, X24, e24, W24, st24⟩ := putF X15 hx hZ hown (host := "") (Or.inl (hw _ (List.mem_of_getElem? (i := 98) rfl))) Via.refl rfl f21 f23 (Or.inr ⟨(hw _ (List.mem_of_getElem? (i := 99) rfl)), rfl, hnm⟩) (hw _ (List.mem_of_getElem? (i := 67) rfl)) (ty := (.object "java/util/List")) (by decide) rfl rfl (g := (mkF m 12 #[.val (.ref a1), .val (.ref a2), .val (.double own_3600), .second, .unset] [(.ref b5), (.ref a1)])) rfl rfl (hb hby d6_12)
  have J25 : ∀ t, Steps p.tables e below (T24.setTop (mkF m 15 #[.val (.ref a1), .val (.ref a2), .val (.double own_3600), .second, .unset] [])) t → Steps p.tables e below (s₁.setTop (entryFrame m #[(.ref a1), (.ref a2), (.double own_3600)] 5)) t := fun t k => J17 t (st24 t k)
  have Z26 : n0 ≤ h24.size := Nat.le_trans Z18 (Keep.of_wr W24).1
  have KK27 : Keep h0 h24 [a1] := KK19.wr W24 (Or.inl (List.mem_of_getElem? (i := 0) rfl))
  have N28 := Fr.snoc X24 N16 g_a1
  have Fw24 := f21.same W24
  have J29 : ∀ t, Steps p.tables e below (T24.setTop (mkF m 17 #[.val (.ref a1), .val (.ref a2), .val (.double own_3600), .second, .unset] [(.ref a2), (.ref a1)])) t → Steps p.tables e below (s₁.setTop (entryFrame m #[(.ref a1), (.ref a2), (.double own_3600)] 5)) t := fun t k => J25 t (by
      show Steps p.tables e below (T24.setTop (mkF m 15 #[.val (.ref a1), .val (.ref a2), .val (.double own_3600), .second, .unset] [])) _
      refine XS.aloadN X24.here hx rfl (hb hby d6_15) rfl rfl ?_
      show Steps p.tables e below (T24.setTop (mkF m 16 #[.val (.ref a1), .val (.ref a2), .val (.double own_3600), .second, .unset] [(.ref a1)])) _
      refine XS.aloadN X24.here hx rfl (hb hby d6_16) rfl rfl ?_
      exact k)
  have f30 := F_link_a1.ext E5
  have f31 := f30.keep K15 (ninS ne7 nin0)
  have f32 := f31.other W24 (Or.inr (slot_ne (Or.inr (hw _ (List.mem_of_getElem? (i := 101) rfl))) (Or.inr (hw _ (List.mem_of_getElem? (i := 99) rfl))) (by decide) (t := (.object "com/example/graded_flow/gradedflow/network/Link")) (t' := (.object "java/util/List")) (by decide) (by decide)))
  have f33 := f23.wr W24
  obtain ⟨T34, h34, X34, e34, W34, st34⟩ := putF X24 hx hZ hown (host := "") (Or.inl (hw _ (List.mem_of_getElem? (i := 100) rfl))) Via.refl e24 f32 f33 (Or.inr ⟨(hw _ (List.mem_of_getElem? (i := 101) rfl)), rfl, hnm⟩) (hw _ (List.mem_of_getElem? (i := 67) rfl)) (ty := (.object "com/example/graded_flow/gradedflow/network/Link")) (by decide) rfl rfl (g := (mkF m 17 #[.val (.ref a1), .val (.ref a2), .val (.double own_3600), .second, .unset] [(.ref a2), (.ref a1)])) rfl rfl (hb hby d6_17)
  have J35 : ∀ t, Steps p.tables e below (T34.setTop (mkF m 20 #[.val (.ref a1), .val (.ref a2), .val (.double own_3600), .second, .unset] [])) t → Steps p.tables e below (s₁.setTop (entryFrame m #[(.ref a1), (.ref a2), (.double own_3600)] 5)) t := fun t k => J29 t (st34 t k)
  have Z36 : n0 ≤ h34.size := Nat.le_trans Z26 (Keep.of_wr W34).1
  have KK37 : Keep h0 h34 [a1] := KK27.wr W34 (Or.inl (List.mem_of_getElem? (i := 0) rfl))
  have N38 := Fr.snoc X34 N28 g_a1
  have Fw34 := f32.same W34
  have J39 : ∀ t, Steps p.tables e below (T34.setTop (mkF m 22 #[.val (.ref a1), .val (.ref a2), .val (.double own_3600), .second, .unset] [(.double own_3600), (.ref a1)])) t → Steps p.tables e below (s₁.setTop (entryFrame m #[(.ref a1), (.ref a2), (.double own_3600)] 5)) t := fun t k => J35 t (by
      show Steps p.tables e below (T34.setTop (mkF m 20 #[.val (.ref a1), .val (.ref a2), .val (.double own_3600), .second, .unset] [])) _
      refine XS.aloadN X34.here hx rfl (hb hby d6_20) rfl rfl ?_
      show Steps p.tables e below (T34.setTop (mkF m 21 #[.val (.ref a1), .val (.ref a2), .val (.double own_3600), .second, .unset] [(.ref a1)])) _
      refine XS.dloadN X34.here hx rfl (hb hby d6_21) rfl ?_
      exact k)
  have f40 := F_macroStep_a1.ext E5
  have f41 := f40.keep K15 (ninS ne7 nin0)
  have f42 := f41.other W24 (Or.inr (slot_ne (Or.inr (hw _ (List.mem_of_getElem? (i := 103) rfl))) (Or.inr (hw _ (List.mem_of_getElem? (i := 99) rfl))) (by decide) (t := .double) (t' := (.object "java/util/List")) (by decide) (by decide)))
  have f43 := f42.other W34 (Or.inr (slot_ne (Or.inr (hw _ (List.mem_of_getElem? (i := 103) rfl))) (Or.inr (hw _ (List.mem_of_getElem? (i := 101) rfl))) (by decide) (t := .double) (t' := (.object "com/example/graded_flow/gradedflow/network/Link")) (by decide) (by decide)))
  have f44 := f33.wr W34
  obtain ⟨T45, h45, X45, e45, W45, st45⟩ := putF X34 hx hZ hown (host := "") (Or.inl (hw _ (List.mem_of_getElem? (i := 102) rfl))) Via.refl e34 f43 f44 (Or.inr ⟨(hw _ (List.mem_of_getElem? (i := 103) rfl)), rfl, hnm⟩) (hw _ (List.mem_of_getElem? (i := 67) rfl)) (ty := .double) (by decide) rfl rfl (g := (mkF m 22 #[.val (.ref a1), .val (.ref a2), .val (.double own_3600), .second, .unset] [(.double own_3600), (.ref a1)])) rfl rfl (hb hby d6_22)
  have J46 : ∀ t, Steps p.tables e below (T45.setTop (mkF m 25 #[.val (.ref a1), .val (.ref a2), .val (.double own_3600), .second, .unset] [])) t → Steps p.tables e below (s₁.setTop (entryFrame m #[(.ref a1), (.ref a2), (.double own_3600)] 5)) t := fun t k => J39 t (st45 t k)
  have Z47 : n0 ≤ h45.size := Nat.le_trans Z36 (Keep.of_wr W45).1
  have KK48 : Keep h0 h45 [a1] := KK37.wr W45 (Or.inl (List.mem_of_getElem? (i := 0) rfl))
  have N49 := Fr.snoc X45 N38 g_a1
  have Fw45 := f43.same W45
  have J50 : ∀ t, Steps p.tables e below (T45.setTop (mkF m 31 #[.val (.ref a1), .val (.ref a2), .val (.double own_3600), .second, .val (.int (0 : Int32))] [(.ref a2), (.int (0 : Int32))])) t → Steps p.tables e below (s₁.setTop (entryFrame m #[(.ref a1), (.ref a2), (.double own_3600)] 5)) t := fun t k => J46 t (by
      show Steps p.tables e below (T45.setTop (mkF m 25 #[.val (.ref a1), .val (.ref a2), .val (.double own_3600), .second, .unset] [])) _
      refine XS.iconst X45.here hx rfl (hb hby d6_25) ?_
      show Steps p.tables e below (T45.setTop (mkF m 26 #[.val (.ref a1), .val (.ref a2), .val (.double own_3600), .second, .unset] [(.int (0 : Int32))])) _
      refine XS.istore X45.here hx rfl (hb hby d6_26) rfl (l' := #[.val (.ref a1), .val (.ref a2), .val (.double own_3600), .second, .val (.int (0 : Int32))]) rfl ?_
      show Steps p.tables e below (T45.setTop (mkF m 28 #[.val (.ref a1), .val (.ref a2), .val (.double own_3600), .second, .val (.int (0 : Int32))] [])) _
      refine XS.iload X45.here hx rfl (hb hby d6_28) rfl ?_
      show Steps p.tables e below (T45.setTop (mkF m 30 #[.val (.ref a1), .val (.ref a2), .val (.double own_3600), .second, .val (.int (0 : Int32))] [(.int (0 : Int32))])) _
      refine XS.aloadN X45.here hx rfl (hb hby d6_30) rfl rfl ?_
      exact k)
  have f51 := E_a2.ext E5
  have f52 := f51.keep K15
  have f53 := f52.wr W24
  have f54 := f53.wr W34
  have f55 := f54.wr W45
  have f56 := F_lanes_a2.ext E5
  have f57 := f56.keep K15 (ninS ne8 nin0)
  have f58 := f57.other W24 (Or.inl ne_a2_a1)
  have f59 := f58.other W34 (Or.inl ne_a2_a1)
  have f60 := f59.other W45 (Or.inl ne_a2_a1)
  obtain ⟨cq61, kq61, q61a, q61b, q61c⟩ := isOf hZ e45 f55
  obtain ⟨_, _, ⟨T61, L61, k61, n61⟩, -, X61, ⟨Lc61, hQ61, l61, y61, z61⟩, st61⟩ := X45.virtualBack hx (y := (⟨"com/example/graded_flow/gradedflow/network/Link", "lanes", "()I"⟩ : MethodName)) (z := (⟨"com/example/graded_flow/gradedflow/network/Link", "lanes", "()I"⟩ : MethodName)) hown (mvT hZ (hw _ (List.mem_of_getElem? (i := 104) rfl))) (mvT hZ (hw _ (List.mem_of_getElem? (i := 105) rfl))) (notFace_of_selects (args := #[]) (mvT hZ (hw _ (List.mem_of_getElem? (i := 107) rfl)))) (mvT hZ (hw _ (List.mem_of_getElem? (i := 107) rfl))) (mvT hZ (hw _ (List.mem_of_getElem? (i := 106) rfl))) (by decide) (backOf (W := 1) (rm10 l Z a0 hw [] a2 (1 : Int32) h45 n0 Z47 f60) hZ (hw _ (List.mem_of_getElem? (i := 108) rfl)) (hw _ (List.mem_of_getElem? (i := 42) rfl)) (by decide) (by decide)) q61a q61c (g := (mkF m 31 #[.val (.ref a1), .val (.ref a2), .val (.double own_3600), .second, .val (.int (0 : Int32))] [(.ref a2), (.int (0 : Int32))])) rfl (by rw [hml]; rfl) (Steps.refl _) (argsL := []) (rest := [(.int (0 : Int32))]) (lenOf pd_6 rfl) rfl (by show 2 * 0 + _ ≤ _; exact Nat.le_of_eq rfl) (hb hby d6_31) (fun _ _ => ⟨rfl, e45, (by decide : 1 + 0 ≤ _), (by decide : 3 + 0 ≤ _)⟩)
  dsimp only [Pt.U, Pt.locs, Pt.cells, Pt.slots] at X61 l61 y61 z61 st61 hQ61
  subst l61 y61 z61
  obtain ⟨rfl, Nq61, e61⟩ := hQ61
  have N62 := Fr.app N49 Nq61
  have J63 : ∀ t, Steps p.tables e below (T61.setTop (mkF m 34 #[.val (.ref a1), .val (.ref a2), .val (.double own_3600), .second, .val (.int (0 : Int32))] [(.int (1 : Int32)), (.int (0 : Int32))])) t → Steps p.tables e below (s₁.setTop (entryFrame m #[(.ref a1), (.ref a2), (.double own_3600)] 5)) t := fun t k => J50 t (st61.trans k)
  have J64 : ∀ t, Steps p.tables e below (T61.setTop (mkF m 38 #[.val (.ref a1), .val (.ref a2), .val (.double own_3600), .second, .val (.int (0 : Int32))] [(.ref a1)])) t → Steps p.tables e below (s₁.setTop (entryFrame m #[(.ref a1), (.ref a2), (.double own_3600)] 5)) t := fun t k => J63 t (by
      show Steps p.tables e below (T61.setTop (mkF m 34 #[.val (.ref a1), .val (.ref a2), .val (.double own_3600), .second, .val (.int (0 : Int32))] [(.int (1 : Int32)), (.int (0 : Int32))])) _
      refine XS.icmpNo X61.here hx rfl (hb hby d6_34) rfl (tlt (by decide)).2.1 ?_
      show Steps p.tables e below (T61.setTop (mkF m 37 #[.val (.ref a1), .val (.ref a2), .val (.double own_3600), .second, .val (.int (0 : Int32))] [])) _
      refine XS.aloadN X61.here hx rfl (hb hby d6_37) rfl rfl ?_
      exact k)
  have f65 := Fw24.other W34 (Or.inr (slot_ne (Or.inr (hw _ (List.mem_of_getElem? (i := 99) rfl))) (Or.inr (hw _ (List.mem_of_getElem? (i := 101) rfl))) (by decide) (t := (.object "java/util/List")) (t' := (.object "com/example/graded_flow/gradedflow/network/Link")) (by decide) (by decide)))
  have f66 := f65.other W45 (Or.inr (slot_ne (Or.inr (hw _ (List.mem_of_getElem? (i := 99) rfl))) (Or.inr (hw _ (List.mem_of_getElem? (i := 103) rfl))) (by decide) (t := (.object "java/util/List")) (t' := .double) (by decide) (by decide)))
  obtain ⟨T67, X67, e67, st67⟩ := getF X61 hx hZ hown (host := "") (Or.inl (hw _ (List.mem_of_getElem? (i := 98) rfl))) Via.refl e61 f66 (g := (mkF m 38 #[.val (.ref a1), .val (.ref a2), .val (.double own_3600), .second, .val (.int (0 : Int32))] [(.ref a1)])) rfl rfl (hb hby d6_38)
  have J68 : ∀ t, Steps p.tables e below (T67.setTop (mkF m 41 #[.val (.ref a1), .val (.ref a2), .val (.double own_3600), .second, .val (.int (0 : Int32))] [(.ref b5)])) t → Steps p.tables e below (s₁.setTop (entryFrame m #[(.ref a1), (.ref a2), (.double own_3600)] 5)) t := fun t k => J64 t (st67 t k)
  have f70 := f44.wr W45
  have f71 := p15_1.wr W24
  have f72 := f71.wr W34
  have f73 := f72.wr W45
  obtain ⟨T69, h69, X69, e69, E69, A69, D69, -, st69⟩ := newO X67 hx hZ hown (hw _ (List.mem_of_getElem? (i := 109) rfl)) (hw _ (List.mem_of_getElem? (i := 110) rfl)) (hw _ (List.mem_of_getElem? (i := 111) rfl)) e67 (g := (mkF m 41 #[.val (.ref a1), .val (.ref a2), .val (.double own_3600), .second, .val (.int (0 : Int32))] [(.ref b5)])) rfl (hb hby d6_41) (by decide) (by decide)
  obtain ⟨b69, g69⟩ : ∃ z, z = h45.size := ⟨_, rfl⟩
  rw [← g69] at A69 D69 st69
  have J74 : ∀ t, Steps p.tables e below (T69.setTop (mkF m 44 #[.val (.ref a1), .val (.ref a2), .val (.double own_3600), .second, .val (.int (0 : Int32))] [(.ref b69), (.ref b5)])) t → Steps p.tables e below (s₁.setTop (entryFrame m #[(.ref a1), (.ref a2), (.double own_3600)] 5)) t := fun t k => J68 t (st69 t k)
  have ne75 : a1 ≠ b69 := Nat.ne_of_lt (Nat.lt_of_lt_of_le f70.lt (Nat.le_of_eq g69.symm))
  have ne76 : a2 ≠ b69 := Nat.ne_of_lt (Nat.lt_of_lt_of_le f55.lt (Nat.le_of_eq g69.symm))
  have ne77 : b5 ≠ b69 := Nat.ne_of_lt (Nat.lt_of_lt_of_le f73.lt (Nat.le_of_eq g69.symm))
  have ge78 : n0 ≤ b69 := Nat.le_trans Z47 (Nat.le_of_eq g69.symm)
  have sz79 : h0.size ≤ b69 := Nat.le_trans KK48.1 (Nat.le_of_eq g69.symm)
  have Z80 : n0 ≤ h69.size := Nat.le_trans Z47 E69.1
  have KK81 : Keep h0 h69 [a1] := KK48.ext E69
  have F69_elements : Fld Z h69 b69 "java/util/ArrayDeque" "elements" "[Ljava/lang/Object;" .null := D69 (Or.inl (hw _ (List.mem_of_getElem? (i := 120) rfl))) (ty := (.array (.object "java/lang/Object"))) (by decide)
  have J82 : ∀ t, Steps p.tables e below (T69.setTop (mkF m 45 #[.val (.ref a1), .val (.ref a2), .val (.double own_3600), .second, .val (.int (0 : Int32))] [(.ref b69), (.ref b69), (.ref b5)])) t → Steps p.tables e below (s₁.setTop (entryFrame m #[(.ref a1), (.ref a2), (.double own_3600)] 5)) t := fun t k => J74 t (by
      show Steps p.tables e below (T69.setTop (mkF m 44 #[.val (.ref a1), .val (.ref a2), .val (.double own_3600), .second, .val (.int (0 : Int32))] [(.ref b69), (.ref b5)])) _
      refine XS.dup X69.here hx rfl (hb hby d6_44) rfl rfl ?_
      exact k)
  obtain ⟨_, _, ⟨T83, L83, k83, n83⟩, -, X83, ⟨Lc83, hQ83, l83, y83, z83⟩, st83⟩ := X69.specialBack hx (y := (⟨"java/util/ArrayDeque", "<init>", "()V"⟩ : MethodName)) rfl hown (mvT hZ (hw _ (List.mem_of_getElem? (i := 112) rfl))) (mvT hZ (hw _ (List.mem_of_getElem? (i := 113) rfl))) (mvT hZ (hw _ (List.mem_of_getElem? (i := 114) rfl))) (by decide) (backOf (W := 2) (rm11 l Z a0 hw [] b69 .null h69 n0 Z80 A69 ge78 F69_elements) hZ (hw _ (List.mem_of_getElem? (i := 114) rfl)) (hw _ (List.mem_of_getElem? (i := 111) rfl)) (by decide) (by decide)) (g := (mkF m 45 #[.val (.ref a1), .val (.ref a2), .val (.double own_3600), .second, .val (.int (0 : Int32))] [(.ref b69), (.ref b69), (.ref b5)])) rfl (by rw [hml]; rfl) (Steps.refl _) (a := b69) (argsL := []) (rest := [(.ref b69), (.ref b5)]) (lenOf pd_0 rfl) rfl (by show 2 * 0 + _ ≤ _; exact Nat.le_of_eq rfl) (hb hby d6_45) (fun _ _ => ⟨rfl, e69, (by decide : 2 + 1 ≤ _), (by decide : 6 + 17 ≤ _)⟩)
  dsimp only [Pt.U, Pt.locs, Pt.cells, Pt.slots] at X83 l83 y83 z83 st83 hQ83
  subst l83 y83 z83
  obtain ⟨rfl, Nq83, K83, p83_1⟩ := hQ83
  have N84 := Fr.app N62 Nq83
  have J85 : ∀ t, Steps p.tables e below (T83.setTop (mkF m 48 #[.val (.ref a1), .val (.ref a2), .val (.double own_3600), .second, .val (.int (0 : Int32))] [(.ref b69), (.ref b5)])) t → Steps p.tables e below (s₁.setTop (entryFrame m #[(.ref a1), (.ref a2), (.double own_3600)] 5)) t := fun t k => J82 t (st83.trans k)
  have Z86 : n0 ≤ T83.heap.size := Nat.le_trans Z80 K83.1
  have KK87 : Keep h0 T83.heap [a1] := KK81.trans K83 (allS (Or.inr sz79) all0)
  have f88 := f73.ext E69
  have f89 := f88.keep K83
  have f90 := f14.keep K15 (allS ge9 all0)
  have f91 := f90.wr W24 g_a1
  have f92 := f91.wr W34 g_a1
  have f93 := f92.wr W45 g_a1
  have f94 := f93.ext E69
  have f95 := f94.keep K83 (allS ge78 all0)
  have f96 := p15_2.other W24 (Or.inl (Ne.symm ne7))
  have f97 := f96.other W34 (Or.inl (Ne.symm ne7))
  have f98 := f97.other W45 (Or.inl (Ne.symm ne7))
  have f99 := f98.ext E69
  have f100 := f99.keep K83 (ninS ne77 nin0)
  have f101 := p15_3.other W24 (Or.inl (Ne.symm ne7))
  have f102 := f101.other W34 (Or.inl (Ne.symm ne7))
  have f103 := f102.other W45 (Or.inl (Ne.symm ne7))
  have f104 := f103.ext E69
  have f105 := f104.keep K83 (ninS ne77 nin0)
  have f106 := p15_4.other W24 (Or.inl (Ne.symm ne7))
  have f107 := f106.other W34 (Or.inl (Ne.symm ne7))
  have f108 := f107.other W45 (Or.inl (Ne.symm ne7))
  have f109 := f108.ext E69
  have f110 := f109.keep K83 (ninS ne77 nin0)
  obtain ⟨cq111, kq111, q111a, q111b, q111c⟩ := isOf hZ rfl f89
  obtain ⟨_, _, ⟨T111, L111, k111, n111⟩, -, X111, ⟨Lc111, hQ111, l111, y111, z111⟩, st111⟩ := X83.interfaceBack hx (xi := (⟨"java/util/List", "add", "(Ljava/lang/Object;)Z"⟩ : MethodName)) (y := (⟨"java/util/ArrayList", "add", "(Ljava/lang/Object;)Z"⟩ : MethodName)) hown (mvT hZ (hw _ (List.mem_of_getElem? (i := 121) rfl))) (mvT hZ (hw _ (List.mem_of_getElem? (i := 122) rfl))) (mvT hZ (hw _ (List.mem_of_getElem? (i := 123) rfl))) (mvT hZ (hw _ (List.mem_of_getElem? (i := 124) rfl))) (mvT hZ (hw _ (List.mem_of_getElem? (i := 125) rfl))) (mvT hZ (hw _ (List.mem_of_getElem? (i := 126) rfl))) (mvT hZ (hw _ (List.mem_of_getElem? (i := 127) rfl))) (mvT hZ (hw _ (List.mem_of_getElem? (i := 128) rfl))) (by decide) (backOf (W := 0) (rm12 l Z a0 hw [] b5 de dcl (0 : Int32) b69 T83.heap n0 Z86 f89 ge9 f95 Zs_DEFAULTCAPACITY_EMPTY_ELEMENTDATA Ad hd f100 f105 f110 p83_1 (Ne.symm ne77)) hZ (hw _ (List.mem_of_getElem? (i := 129) rfl)) (hw _ (List.mem_of_getElem? (i := 76) rfl)) (by decide) (by decide)) q111a q111b q111c (g := (mkF m 48 #[.val (.ref a1), .val (.ref a2), .val (.double own_3600), .second, .val (.int (0 : Int32))] [(.ref b69), (.ref b5)])) rfl (by rw [hml]; rfl) (Steps.refl _) (argsL := [(.ref b69)]) (rest := []) (lenOf pd_7 rfl) rfl (by show 2 * 0 + _ ≤ _; exact Nat.le_of_eq rfl) (hb hby d6_48) (fun _ _ => ⟨rfl, rfl, (by decide : 3 + 1 ≤ _), (by decide : 23 + 10 ≤ _)⟩)
  dsimp only [Pt.U, Pt.locs, Pt.cells, Pt.slots] at X111 l111 y111 z111 st111 hQ111
  subst l111 y111 z111
  obtain ⟨rfl, Nq111, K111, p111_1⟩ := hQ111
  have N112 := Fr.app N84 Nq111
  have J113 : ∀ t, Steps p.tables e below (T111.setTop (mkF m 53 #[.val (.ref a1), .val (.ref a2), .val (.double own_3600), .second, .val (.int (0 : Int32))] [(.int (1 : Int32))])) t → Steps p.tables e below (s₁.setTop (entryFrame m #[(.ref a1), (.ref a2), (.double own_3600)] 5)) t := fun t k => J85 t (st111.trans k)
  have Z114 : n0 ≤ T111.heap.size := Nat.le_trans Z86 K111.1
  have KK115 : Keep h0 T111.heap [a1] := KK87.trans K111 (allS (Or.inr sz10) all0)
  have J116 : ∀ t, Steps p.tables e below (T111.setTop (mkF m 31 #[.val (.ref a1), .val (.ref a2), .val (.double own_3600), .second, .val (.int ((0 : Int32) + (1 : Int32)))] [(.ref a2), (.int ((0 : Int32) + (1 : Int32)))])) t → Steps p.tables e below (s₁.setTop (entryFrame m #[(.ref a1), (.ref a2), (.double own_3600)] 5)) t := fun t k => J113 t (by
      show Steps p.tables e below (T111.setTop (mkF m 53 #[.val (.ref a1), .val (.ref a2), .val (.double own_3600), .second, .val (.int (0 : Int32))] [(.int (1 : Int32))])) _
      refine XS.pop X111.here hx rfl (hb hby d6_53) rfl rfl ?_
      show Steps p.tables e below (T111.setTop (mkF m 54 #[.val (.ref a1), .val (.ref a2), .val (.double own_3600), .second, .val (.int (0 : Int32))] [])) _
      refine XS.iinc X111.here hx rfl (hb hby d6_54) rfl (l' := #[.val (.ref a1), .val (.ref a2), .val (.double own_3600), .second, .val (.int ((0 : Int32) + (1 : Int32)))]) rfl ?_
      show Steps p.tables e below (T111.setTop (mkF m 57 #[.val (.ref a1), .val (.ref a2), .val (.double own_3600), .second, .val (.int ((0 : Int32) + (1 : Int32)))] [])) _
      refine XS.goto X111.here hx rfl (pc0 := 57) (pc' := 28) rfl (hb hby d6_57) (by decide) (by decide) ?_
      show Steps p.tables e below (T111.setTop (mkF m 28 #[.val (.ref a1), .val (.ref a2), .val (.double own_3600), .second, .val (.int ((0 : Int32) + (1 : Int32)))] [])) _
      refine XS.iload X111.here hx rfl (hb hby d6_28) rfl ?_
      show Steps p.tables e below (T111.setTop (mkF m 30 #[.val (.ref a1), .val (.ref a2), .val (.double own_3600), .second, .val (.int ((0 : Int32) + (1 : Int32)))] [(.int ((0 : Int32) + (1 : Int32)))])) _
      refine XS.aloadN X111.here hx rfl (hb hby d6_30) rfl rfl ?_
      exact k)
  have f117 := f55.ext E69
  have f118 := f117.keep K83
  have f119 := f118.keep K111
  have f120 := f60.ext E69
  have f121 := f120.keep K83 (ninS ne76 nin0)
  have f122 := f121.keep K111 (ninS ne8 nin0)
  obtain ⟨cq123, kq123, q123a, q123b, q123c⟩ := isOf hZ rfl f119
  obtain ⟨_, _, ⟨T123, L123, k123, n123⟩, -, X123, ⟨Lc123, hQ123, l123, y123, z123⟩, st123⟩ := X111.virtualBack hx (y := (⟨"com/example/graded_flow/gradedflow/network/Link", "lanes", "()I"⟩ : MethodName)) (z := (⟨"com/example/graded_flow/gradedflow/network/Link", "lanes", "()I"⟩ : MethodName)) hown (mvT hZ (hw _ (List.mem_of_getElem? (i := 104) rfl))) (mvT hZ (hw _ (List.mem_of_getElem? (i := 105) rfl))) (notFace_of_selects (args := #[]) (mvT hZ (hw _ (List.mem_of_getElem? (i := 107) rfl)))) (mvT hZ (hw _ (List.mem_of_getElem? (i := 107) rfl))) (mvT hZ (hw _ (List.mem_of_getElem? (i := 106) rfl))) (by decide) (backOf (W := 1) (rm10 l Z a0 hw [] a2 (1 : Int32) T111.heap n0 Z114 f122) hZ (hw _ (List.mem_of_getElem? (i := 108) rfl)) (hw _ (List.mem_of_getElem? (i := 42) rfl)) (by decide) (by decide)) q123a q123c (g := (mkF m 31 #[.val (.ref a1), .val (.ref a2), .val (.double own_3600), .second, .val (.int ((0 : Int32) + (1 : Int32)))] [(.ref a2), (.int ((0 : Int32) + (1 : Int32)))])) rfl (by rw [hml]; rfl) (Steps.refl _) (argsL := []) (rest := [(.int ((0 : Int32) + (1 : Int32)))]) (lenOf pd_6 rfl) rfl (by show 2 * 0 + _ ≤ _; exact Nat.le_of_eq rfl) (hb hby d6_31) (fun _ _ => ⟨rfl, rfl, (by decide : 4 + 0 ≤ _), (by decide : 33 + 0 ≤ _)⟩)
  dsimp only [Pt.U, Pt.locs, Pt.cells, Pt.slots] at X123 l123 y123 z123 st123 hQ123
  subst l123 y123 z123
  obtain ⟨rfl, Nq123, e123⟩ := hQ123
  have N124 := Fr.app N112 Nq123
  have J125 : ∀ t, Steps p.tables e below (T123.setTop (mkF m 34 #[.val (.ref a1), .val (.ref a2), .val (.double own_3600), .second, .val (.int ((0 : Int32) + (1 : Int32)))] [(.int (1 : Int32)), (.int ((0 : Int32) + (1 : Int32)))])) t → Steps p.tables e below (s₁.setTop (entryFrame m #[(.ref a1), (.ref a2), (.double own_3600)] 5)) t := fun t k => J116 t (st123.trans k)
  have J126 : ∀ t, Steps p.tables e below (T123.setTop (mkF m 60 #[.val (.ref a1), .val (.ref a2), .val (.double own_3600), .second, .val (.int ((0 : Int32) + (1 : Int32)))] [])) t → Steps p.tables e below (s₁.setTop (entryFrame m #[(.ref a1), (.ref a2), (.double own_3600)] 5)) t := fun t k => J125 t (by
      show Steps p.tables e below (T123.setTop (mkF m 34 #[.val (.ref a1), .val (.ref a2), .val (.double own_3600), .second, .val (.int ((0 : Int32) + (1 : Int32)))] [(.int (1 : Int32)), (.int ((0 : Int32) + (1 : Int32)))])) _
      refine XS.icmpYes X123.here hx rfl (pc0 := 34) (pc' := 60) rfl (hb hby d6_34) rfl (flt (by decide)).2.1 (by decide) (by decide) ?_
      exact k)
  obtain ⟨fs, hr, hrun, hended, hW, hsame⟩ := X123.leave (v := none) (fun _ => rfl)
  have f127 := f70.ext E69
  have f128 := f127.keep K83
  have f129 := f128.keep K111
  have f130 := Fw34.other W45 (Or.inr (slot_ne (Or.inr (hw _ (List.mem_of_getElem? (i := 101) rfl))) (Or.inr (hw _ (List.mem_of_getElem? (i := 103) rfl))) (by decide) (t := (.object "com/example/graded_flow/gradedflow/network/Link")) (t' := .double) (by decide) (by decide)))
  have f131 := f130.ext E69
  have f132 := f131.keep K83 (ninS ne75 nin0)
  have f133 := f132.keep K111 (ninS ne7 nin0)
  have f134 := Fw45.ext E69
  have f135 := f134.keep K83 (ninS ne75 nin0)
  have f136 := f135.keep K111 (ninS ne7 nin0)
  have f137 := F_entering_a1.ext E5
  have f138 := f137.keep K15 (ninS ne7 nin0)
  have f139 := f138.other W24 (Or.inr (slot_ne (Or.inl (hw _ (List.mem_of_getElem? (i := 161) rfl))) (Or.inr (hw _ (List.mem_of_getElem? (i := 99) rfl))) (by decide) (t := .double) (t' := (.object "java/util/List")) (by decide) (by decide)))
  have f140 := f139.other W34 (Or.inr (slot_ne (Or.inl (hw _ (List.mem_of_getElem? (i := 161) rfl))) (Or.inr (hw _ (List.mem_of_getElem? (i := 101) rfl))) (by decide) (t := .double) (t' := (.object "com/example/graded_flow/gradedflow/network/Link")) (by decide) (by decide)))
  have f141 := f140.other W45 (Or.inr (slot_ne (Or.inl (hw _ (List.mem_of_getElem? (i := 161) rfl))) (Or.inr (hw _ (List.mem_of_getElem? (i := 103) rfl))) (by decide) (t := .double) (t' := .double) (by decide) (by decide)))
  have f142 := f141.ext E69
  have f143 := f142.keep K83 (ninS ne75 nin0)
  have f144 := f143.keep K111 (ninS ne7 nin0)
  have f145 := F_upstreamDensity_a1.ext E5
  have f146 := f145.keep K15 (ninS ne7 nin0)
  have f147 := f146.other W24 (Or.inr (slot_ne (Or.inl (hw _ (List.mem_of_getElem? (i := 163) rfl))) (Or.inr (hw _ (List.mem_of_getElem? (i := 99) rfl))) (by decide) (t := .double) (t' := (.object "java/util/List")) (by decide) (by decide)))
  have f148 := f147.other W34 (Or.inr (slot_ne (Or.inl (hw _ (List.mem_of_getElem? (i := 163) rfl))) (Or.inr (hw _ (List.mem_of_getElem? (i := 101) rfl))) (by decide) (t := .double) (t' := (.object "com/example/graded_flow/gradedflow/network/Link")) (by decide) (by decide)))
  have f149 := f148.other W45 (Or.inr (slot_ne (Or.inl (hw _ (List.mem_of_getElem? (i := 163) rfl))) (Or.inr (hw _ (List.mem_of_getElem? (i := 103) rfl))) (by decide) (t := .double) (t' := .double) (by decide) (by decide)))
  have f150 := f149.ext E69
  have f151 := f150.keep K83 (ninS ne75 nin0)
  have f152 := f151.keep K111 (ninS ne7 nin0)
  have f153 := F_remainder_a1.ext E5
  have f154 := f153.keep K15 (ninS ne7 nin0)
  have f155 := f154.other W24 (Or.inr (slot_ne (Or.inl (hw _ (List.mem_of_getElem? (i := 191) rfl))) (Or.inr (hw _ (List.mem_of_getElem? (i := 99) rfl))) (by decide) (t := .double) (t' := (.object "java/util/List")) (by decide) (by decide)))
  have f156 := f155.other W34 (Or.inr (slot_ne (Or.inl (hw _ (List.mem_of_getElem? (i := 191) rfl))) (Or.inr (hw _ (List.mem_of_getElem? (i := 101) rfl))) (by decide) (t := .double) (t' := (.object "com/example/graded_flow/gradedflow/network/Link")) (by decide) (by decide)))
  have f157 := f156.other W45 (Or.inr (slot_ne (Or.inl (hw _ (List.mem_of_getElem? (i := 191) rfl))) (Or.inr (hw _ (List.mem_of_getElem? (i := 103) rfl))) (by decide) (t := .double) (t' := .double) (by decide) (by decide)))
  have f158 := f157.ext E69
  have f159 := f158.keep K83 (ninS ne75 nin0)
  have f160 := f159.keep K111 (ninS ne7 nin0)
  have f161 := F_created_a1.ext E5
  have f162 := f161.keep K15 (ninS ne7 nin0)
  have f163 := f162.other W24 (Or.inr (slot_ne (Or.inl (hw _ (List.mem_of_getElem? (i := 193) rfl))) (Or.inr (hw _ (List.mem_of_getElem? (i := 99) rfl))) (by decide) (t := .int) (t' := (.object "java/util/List")) (by decide) (by decide)))
  have f164 := f163.other W34 (Or.inr (slot_ne (Or.inl (hw _ (List.mem_of_getElem? (i := 193) rfl))) (Or.inr (hw _ (List.mem_of_getElem? (i := 101) rfl))) (by decide) (t := .int) (t' := (.object "com/example/graded_flow/gradedflow/network/Link")) (by decide) (by decide)))
  have f165 := f164.other W45 (Or.inr (slot_ne (Or.inl (hw _ (List.mem_of_getElem? (i := 193) rfl))) (Or.inr (hw _ (List.mem_of_getElem? (i := 103) rfl))) (by decide) (t := .int) (t' := .double) (by decide) (by decide)))
  have f166 := f165.ext E69
  have f167 := f166.keep K83 (ninS ne75 nin0)
  have f168 := f167.keep K111 (ninS ne7 nin0)
  refine ⟨_, _, J126 _ ?_, hrun, hended, _, _, rfl, ?_, ⟨_, rfl⟩, hW, hsame.mono (by decide) (by decide)⟩
  · show Steps p.tables e below (T123.setTop (mkF m 60 #[.val (.ref a1), .val (.ref a2), .val (.double own_3600), .second, .val (.int ((0 : Int32) + (1 : Int32)))] [])) _
    exact X123.returnOut hx Bd.returns (hb hby d6_60) hr
  · show Q6 Z a1 a2 de dcl u1 u2 u3 h0 n0 _ T123.heap _
    rw [e123]
    exact ⟨rfl, N124, KK115, f129, f133, f136, f144, f152, f160, f168⟩
theorem d17_0 : decode prog_8_method_5_code 0 = .ok (.aload_n 0, 1) := by decide +kernel
theorem d17_1 : decode prog_8_method_5_code 1 = .ok (.dup, 1) := by decide +kernel
theorem d17_2 : decode prog_8_method_5_code 2 = .ok (.getfield 58, 3) := by decide +kernel
theorem d17_5 : decode prog_8_method_5_code 5 = .ok (.dload_n 1, 1) := by decide +kernel
theorem d17_6 : decode prog_8_method_5_code 6 = .ok (.dadd, 1) := by decide +kernel
theorem d17_7 : decode prog_8_method_5_code 7 = .ok (.putfield 58, 3) := by decide +kernel
theorem d17_10 : decode prog_8_method_5_code 10 = .ok (.dload_n 3, 1) := by decide +kernel
theorem d17_11 : decode prog_8_method_5_code 11 = .ok (.dconst 0, 1) := by decide +kernel
theorem d17_12 : decode prog_8_method_5_code 12 = .ok (.dcmp .l, 1) := by decide +kernel
theorem d17_13 : decode prog_8_method_5_code 13 = .ok (.ifCond .le 8, 3) := by decide +kernel
theorem d17_16 : decode prog_8_method_5_code 16 = .ok (.aload_n 0, 1) := by decide +kernel
theorem d17_17 : decode prog_8_method_5_code 17 = .ok (.dload_n 3, 1) := by decide +kernel
theorem d17_18 : decode prog_8_method_5_code 18 = .ok (.putfield 61, 3) := by decide +kernel
theorem d17_21 : decode prog_8_method_5_code 21 = .ok (.return_, 1) := by decide +kernel
theorem pn_17 : plainName "com/example/graded_flow/gradedflow/microscopic/Entry" = true := by first | (simp [plainName, overriddenIn]; done) | decide +kernel
theorem ef_17_xxx (m : MethodId) (x0 : Addr) (x1 : UInt64) (x2 : UInt64) : entryFrame m #[(.ref x0), (.double x1), (.double x2)] 5 = mkF m 0 #[.val (.ref x0), .val (.double x1), .second, .val (.double x2), .second] [] := by first | (simp [entryFrame, mkF, argsToLocals, Value.category]; done) | rfl
def Q17 (Z : State) (a1 : Addr) (lk : Addr) (ent : UInt64) (up : UInt64) (rem : UInt64) (x : UInt64) (y : UInt64) (h0 : Heap) (n0 : Nat) (v : Option Value) (h : Heap) (L : List Loc) : Prop := v = none ∧ Fr n0 L ∧ Keep h0 h [a1] ∧ (Exa Z h a1 "com/example/graded_flow/gradedflow/microscopic/Entry") ∧ (Fld Z h a1 "com/example/graded_flow/gradedflow/microscopic/Entry" "link" "Lcom/example/graded_flow/gradedflow/network/Link;" (.ref lk)) ∧ (Fld Z h a1 "com/example/graded_flow/gradedflow/microscopic/Entry" "macroStep" "D" (.double own_3600)) ∧ (Fld Z h a1 "com/example/graded_flow/gradedflow/microscopic/Entry" "entering" "D" (.double (FP.dadd ent x))) ∧ (Fld Z h a1 "com/example/graded_flow/gradedflow/microscopic/Entry" "upstreamDensity" "D" (.double (if (0 : Int32) < cmpValue (FP.dcmp y FP.dconst0) .l then y else up))) ∧ (Fld Z h a1 "com/example/graded_flow/gradedflow/microscopic/Entry" "remainder" "D" (.double rem)) ∧ (Fld Z h a1 "com/example/graded_flow/gradedflow/microscopic/Entry" "created" "I" (.int (0 : Int32)))
set_option maxRecDepth 65536 in
set_option maxHeartbeats 40000000 in
theorem rm17 (l : Launch) (Z : State) (a0 : Array Value) (hw : ∀ d ∈ tables_1, d.before a0 Z = true) (ws : List Jvm.Cond) (a1 : Addr) (lk : Addr) (ent : UInt64) (up : UInt64) (rem : UInt64) (x : UInt64) (y : UInt64) (h0 : Heap) (n0 : Nat) (Z0 : n0 ≤ h0.size) (E_a1 : Exa Z h0 a1 "com/example/graded_flow/gradedflow/microscopic/Entry") (g_a1 : n0 ≤ a1) (hn : Jvm.Free.Fl.NoNaN64 (FP.dadd ent x)) (F_link_a1 : Fld Z h0 a1 "com/example/graded_flow/gradedflow/microscopic/Entry" "link" "Lcom/example/graded_flow/gradedflow/network/Link;" (.ref lk)) (F_macroStep_a1 : Fld Z h0 a1 "com/example/graded_flow/gradedflow/microscopic/Entry" "macroStep" "D" (.double own_3600)) (F_entering_a1 : Fld Z h0 a1 "com/example/graded_flow/gradedflow/microscopic/Entry" "entering" "D" (.double ent)) (F_upstreamDensity_a1 : Fld Z h0 a1 "com/example/graded_flow/gradedflow/microscopic/Entry" "upstreamDensity" "D" (.double up)) (F_remainder_a1 : Fld Z h0 a1 "com/example/graded_flow/gradedflow/microscopic/Entry" "remainder" "D" (.double rem)) (F_created_a1 : Fld Z h0 a1 "com/example/graded_flow/gradedflow/microscopic/Entry" "created" "I" (.int (0 : Int32))) :
    MetFree l (⟨"com/example/graded_flow/gradedflow/microscopic/Entry", "takeIn", "(DD)V"⟩ : MethodName) (head1 (Jvm.Cond.code (⟨"com/example/graded_flow/gradedflow/microscopic/Entry", "takeIn", "(DD)V"⟩ : MethodName) prog_8_method_5_code 5 none :: ws) ({ frames := 0, cells := 0, slots := 0, locals := 0 } : Room)) (fun a U => a = #[(.ref a1), (.double x), (.double y)] ∧ Z.Warmed39 U.vm ∧ U.heap = h0) (fun _ _ _ _ _ => True) (fun _ U o U' => ∃ v L, o = .returned v ∧ Q17 Z a1 lk ent up rem x y h0 n0 v U'.heap L ∧ FrameEnd U o U' L ({ frames := 0, cells := 0, slots := 0, locals := 0 } : Room).cells ({ frames := 0, cells := 0, slots := 0, locals := 0 } : Room).slots) := by
  refine MetFree.of_bodySF (plainFor_of_name pn_17) hisR ?_
  intro p e s m args below meth c s₁ Bd hml0 hP hK
  obtain ⟨rfl, hZ, hh⟩ := hP
  have hx := Bd.exec
  have hby := Bd.bytes
  have hml : c.maxLocals = 5 := hml0
  have hown : s.vm.findClass "com/example/graded_flow/gradedflow/microscopic/Entry" = some m.cls := findClass_of_methodNamed Bd.named
  have hnm := (name_of_methodNamed Bd.named Bd.method).1
  have X0 : Stand p l e ({ frames := 0, cells := 0, slots := 0, locals := 0 } : Room) s m #[(.ref a1), (.double x), (.double y)] below meth c s₁ [] 0 0 := Stand.of_body Bd
  have e0 : s₁.heap = h0 := by rw [← hh, Bd.state]; rfl
  have N0 := Fr.nil n0
  have pre0 : ∀ t, Steps p.tables e below (s₁.setTop (mkF m 0 #[.val (.ref a1), .val (.double x), .second, .val (.double y), .second] [])) t → Steps p.tables e below (s₁.setTop (entryFrame m #[(.ref a1), (.double x), (.double y)] 5)) t := fun t k => castTop (ef_17_xxx m a1 x y) k
  have J1 : ∀ t, Steps p.tables e below (s₁.setTop (mkF m 2 #[.val (.ref a1), .val (.double x), .second, .val (.double y), .second] [(.ref a1), (.ref a1)])) t → Steps p.tables e below (s₁.setTop (entryFrame m #[(.ref a1), (.double x), (.double y)] 5)) t := fun t k => pre0 t (by
      show Steps p.tables e below (s₁.setTop (mkF m 0 #[.val (.ref a1), .val (.double x), .second, .val (.double y), .second] [])) _
      refine XS.aloadN X0.here hx rfl (hb hby d17_0) rfl rfl ?_
      show Steps p.tables e below (s₁.setTop (mkF m 1 #[.val (.ref a1), .val (.double x), .second, .val (.double y), .second] [(.ref a1)])) _
      refine XS.dup X0.here hx rfl (hb hby d17_1) rfl rfl ?_
      exact k)
  obtain ⟨T2, X2, e2, st2⟩ := getF X0 hx hZ hown (host := "") (Or.inl (hw _ (List.mem_of_getElem? (i := 160) rfl))) Via.refl e0 F_entering_a1 (g := (mkF m 2 #[.val (.ref a1), .val (.double x), .second, .val (.double y), .second] [(.ref a1), (.ref a1)])) rfl rfl (hb hby d17_2)
  have J3 : ∀ t, Steps p.tables e below (T2.setTop (mkF m 5 #[.val (.ref a1), .val (.double x), .second, .val (.double y), .second] [(.double ent), (.ref a1)])) t → Steps p.tables e below (s₁.setTop (entryFrame m #[(.ref a1), (.double x), (.double y)] 5)) t := fun t k => J1 t (st2 t k)
  have J4 : ∀ t, Steps p.tables e below (T2.setTop (mkF m 7 #[.val (.ref a1), .val (.double x), .second, .val (.double y), .second] [(.double (FP.dadd ent x)), (.ref a1)])) t → Steps p.tables e below (s₁.setTop (entryFrame m #[(.ref a1), (.double x), (.double y)] 5)) t := fun t k => J3 t (by
      show Steps p.tables e below (T2.setTop (mkF m 5 #[.val (.ref a1), .val (.double x), .second, .val (.double y), .second] [(.double ent), (.ref a1)])) _
      refine XS.dloadN X2.here hx rfl (hb hby d17_5) rfl ?_
      show Steps p.tables e below (T2.setTop (mkF m 6 #[.val (.ref a1), .val (.double x), .second, .val (.double y), .second] [(.double x), (.double ent), (.ref a1)])) _
      refine XS.daddS X2.here hx rfl (hb hby d17_6) rfl hn rfl ?_
      exact k)
  obtain ⟨T5, h5, X5, e5, W5, st5⟩ := putF X2 hx hZ hown (host := "") (Or.inl (hw _ (List.mem_of_getElem? (i := 160) rfl))) Via.refl e2 F_entering_a1 E_a1 (Or.inl (hw _ (List.mem_of_getElem? (i := 161) rfl))) (hw _ (List.mem_of_getElem? (i := 67) rfl)) (ty := .double) (by decide) rfl rfl (g := (mkF m 7 #[.val (.ref a1), .val (.double x), .second, .val (.double y), .second] [(.double (FP.dadd ent x)), (.ref a1)])) rfl rfl (hb hby d17_7)
  have J6 : ∀ t, Steps p.tables e below (T5.setTop (mkF m 10 #[.val (.ref a1), .val (.double x), .second, .val (.double y), .second] [])) t → Steps p.tables e below (s₁.setTop (entryFrame m #[(.ref a1), (.double x), (.double y)] 5)) t := fun t k => J4 t (st5 t k)
  have Z7 : n0 ≤ h5.size := Nat.le_trans Z0 (Keep.of_wr W5).1
  have KK8 : Keep h0 h5 [a1] := (Keep.refl h0 [a1]).wr W5 (Or.inl (List.mem_of_getElem? (i := 0) rfl))
  have N9 := Fr.snoc X5 N0 g_a1
  have Fw5 := F_entering_a1.same W5
  have J10 : ∀ t, Steps p.tables e below (T5.setTop (mkF m 13 #[.val (.ref a1), .val (.double x), .second, .val (.double y), .second] [(.int (cmpValue (FP.dcmp y FP.dconst0) .l))])) t → Steps p.tables e below (s₁.setTop (entryFrame m #[(.ref a1), (.double x), (.double y)] 5)) t := fun t k => J6 t (by
      show Steps p.tables e below (T5.setTop (mkF m 10 #[.val (.ref a1), .val (.double x), .second, .val (.double y), .second] [])) _
      refine XS.dloadN X5.here hx rfl (hb hby d17_10) rfl ?_
      show Steps p.tables e below (T5.setTop (mkF m 11 #[.val (.ref a1), .val (.double x), .second, .val (.double y), .second] [(.double y)])) _
      refine XS.dconst0 X5.here hx rfl (hb hby d17_11) rfl ?_
      show Steps p.tables e below (T5.setTop (mkF m 12 #[.val (.ref a1), .val (.double x), .second, .val (.double y), .second] [(.double FP.dconst0), (.double y)])) _
      refine XS.dcmpS X5.here hx rfl (hb hby d17_12) rfl rfl ?_
      exact k)
  by_cases hq : (0 : Int32) < cmpValue (FP.dcmp y FP.dconst0) .l
  ·
    have J11 : ∀ t, Steps p.tables e below (T5.setTop (mkF m 18 #[.val (.ref a1), .val (.double x), .second, .val (.double y), .second] [(.double y), (.ref a1)])) t → Steps p.tables e below (s₁.setTop (entryFrame m #[(.ref a1), (.double x), (.double y)] 5)) t := fun t k => J10 t (by
        show Steps p.tables e below (T5.setTop (mkF m 13 #[.val (.ref a1), .val (.double x), .second, .val (.double y), .second] [(.int (cmpValue (FP.dcmp y FP.dconst0) .l))])) _
        refine XS.ifNo X5.here hx rfl (hb hby d17_13) rfl ((if0 _ _).trans (tlt hq).2.2.2) ?_
        show Steps p.tables e below (T5.setTop (mkF m 16 #[.val (.ref a1), .val (.double x), .second, .val (.double y), .second] [])) _
        refine XS.aloadN X5.here hx rfl (hb hby d17_16) rfl rfl ?_
        show Steps p.tables e below (T5.setTop (mkF m 17 #[.val (.ref a1), .val (.double x), .second, .val (.double y), .second] [(.ref a1)])) _
        refine XS.dloadN X5.here hx rfl (hb hby d17_17) rfl ?_
        exact k)
    have f12 := F_upstreamDensity_a1.other W5 (Or.inr (slot_ne (Or.inl (hw _ (List.mem_of_getElem? (i := 163) rfl))) (Or.inl (hw _ (List.mem_of_getElem? (i := 161) rfl))) (by decide) (t := .double) (t' := .double) (by decide) (by decide)))
    have f13 := E_a1.wr W5
    obtain ⟨T14, h14, X14, e14, W14, st14⟩ := putF X5 hx hZ hown (host := "") (Or.inl (hw _ (List.mem_of_getElem? (i := 162) rfl))) Via.refl e5 f12 f13 (Or.inl (hw _ (List.mem_of_getElem? (i := 163) rfl))) (hw _ (List.mem_of_getElem? (i := 67) rfl)) (ty := .double) (by decide) rfl rfl (g := (mkF m 18 #[.val (.ref a1), .val (.double x), .second, .val (.double y), .second] [(.double y), (.ref a1)])) rfl rfl (hb hby d17_18)
    have J15 : ∀ t, Steps p.tables e below (T14.setTop (mkF m 21 #[.val (.ref a1), .val (.double x), .second, .val (.double y), .second] [])) t → Steps p.tables e below (s₁.setTop (entryFrame m #[(.ref a1), (.double x), (.double y)] 5)) t := fun t k => J11 t (st14 t k)
    have Z16 : n0 ≤ h14.size := Nat.le_trans Z7 (Keep.of_wr W14).1
    have KK17 : Keep h0 h14 [a1] := KK8.wr W14 (Or.inl (List.mem_of_getElem? (i := 0) rfl))
    have N18 := Fr.snoc X14 N9 g_a1
    have Fw14 := f12.same W14
    obtain ⟨fs, hr, hrun, hended, hW, hsame⟩ := X14.leave (v := none) (fun _ => rfl)
    have f19 := f13.wr W14
    have f20 := F_link_a1.other W5 (Or.inr (slot_ne (Or.inr (hw _ (List.mem_of_getElem? (i := 101) rfl))) (Or.inl (hw _ (List.mem_of_getElem? (i := 161) rfl))) (by decide) (t := (.object "com/example/graded_flow/gradedflow/network/Link")) (t' := .double) (by decide) (by decide)))
    have f21 := f20.other W14 (Or.inr (slot_ne (Or.inr (hw _ (List.mem_of_getElem? (i := 101) rfl))) (Or.inl (hw _ (List.mem_of_getElem? (i := 163) rfl))) (by decide) (t := (.object "com/example/graded_flow/gradedflow/network/Link")) (t' := .double) (by decide) (by decide)))
    have f22 := F_macroStep_a1.other W5 (Or.inr (slot_ne (Or.inr (hw _ (List.mem_of_getElem? (i := 103) rfl))) (Or.inl (hw _ (List.mem_of_getElem? (i := 161) rfl))) (by decide) (t := .double) (t' := .double) (by decide) (by decide)))
    have f23 := f22.other W14 (Or.inr (slot_ne (Or.inr (hw _ (List.mem_of_getElem? (i := 103) rfl))) (Or.inl (hw _ (List.mem_of_getElem? (i := 163) rfl))) (by decide) (t := .double) (t' := .double) (by decide) (by decide)))
    have f24 := Fw5.other W14 (Or.inr (slot_ne (Or.inl (hw _ (List.mem_of_getElem? (i := 161) rfl))) (Or.inl (hw _ (List.mem_of_getElem? (i := 163) rfl))) (by decide) (t := .double) (t' := .double) (by decide) (by decide)))
    have f25 := F_remainder_a1.other W5 (Or.inr (slot_ne (Or.inl (hw _ (List.mem_of_getElem? (i := 191) rfl))) (Or.inl (hw _ (List.mem_of_getElem? (i := 161) rfl))) (by decide) (t := .double) (t' := .double) (by decide) (by decide)))
    have f26 := f25.other W14 (Or.inr (slot_ne (Or.inl (hw _ (List.mem_of_getElem? (i := 191) rfl))) (Or.inl (hw _ (List.mem_of_getElem? (i := 163) rfl))) (by decide) (t := .double) (t' := .double) (by decide) (by decide)))
    have f27 := F_created_a1.other W5 (Or.inr (slot_ne (Or.inl (hw _ (List.mem_of_getElem? (i := 193) rfl))) (Or.inl (hw _ (List.mem_of_getElem? (i := 161) rfl))) (by decide) (t := .int) (t' := .double) (by decide) (by decide)))
    have f28 := f27.other W14 (Or.inr (slot_ne (Or.inl (hw _ (List.mem_of_getElem? (i := 193) rfl))) (Or.inl (hw _ (List.mem_of_getElem? (i := 163) rfl))) (by decide) (t := .int) (t' := .double) (by decide) (by decide)))
    refine ⟨_, _, J15 _ ?_, hrun, hended, _, _, rfl, ?_, ⟨_, rfl⟩, hW, hsame.mono (by decide) (by decide)⟩
    · show Steps p.tables e below (T14.setTop (mkF m 21 #[.val (.ref a1), .val (.double x), .second, .val (.double y), .second] [])) _
      exact X14.returnOut hx Bd.returns (hb hby d17_21) hr
    · show Q17 Z a1 lk ent up rem x y h0 n0 _ T14.heap _
      rw [e14]
      exact ⟨rfl, N18, KK17, f19, f21, f23, f24, (by rw [if_pos hq]; exact Fw14), f26, f28⟩
  ·
    have J29 : ∀ t, Steps p.tables e below (T5.setTop (mkF m 21 #[.val (.ref a1), .val (.double x), .second, .val (.double y), .second] [])) t → Steps p.tables e below (s₁.setTop (entryFrame m #[(.ref a1), (.double x), (.double y)] 5)) t := fun t k => J10 t (by
        show Steps p.tables e below (T5.setTop (mkF m 13 #[.val (.ref a1), .val (.double x), .second, .val (.double y), .second] [(.int (cmpValue (FP.dcmp y FP.dconst0) .l))])) _
        refine XS.ifYes X5.here hx rfl (pc0 := 13) (pc' := 21) rfl (hb hby d17_13) rfl ((if0 _ _).trans (flt hq).2.2.2) (by decide) (by decide) ?_
        exact k)
    have f30 := F_upstreamDensity_a1.other W5 (Or.inr (slot_ne (Or.inl (hw _ (List.mem_of_getElem? (i := 163) rfl))) (Or.inl (hw _ (List.mem_of_getElem? (i := 161) rfl))) (by decide) (t := .double) (t' := .double) (by decide) (by decide)))
    obtain ⟨fs, hr, hrun, hended, hW, hsame⟩ := X5.leave (v := none) (fun _ => rfl)
    have f31 := E_a1.wr W5
    have f32 := F_link_a1.other W5 (Or.inr (slot_ne (Or.inr (hw _ (List.mem_of_getElem? (i := 101) rfl))) (Or.inl (hw _ (List.mem_of_getElem? (i := 161) rfl))) (by decide) (t := (.object "com/example/graded_flow/gradedflow/network/Link")) (t' := .double) (by decide) (by decide)))
    have f33 := F_macroStep_a1.other W5 (Or.inr (slot_ne (Or.inr (hw _ (List.mem_of_getElem? (i := 103) rfl))) (Or.inl (hw _ (List.mem_of_getElem? (i := 161) rfl))) (by decide) (t := .double) (t' := .double) (by decide) (by decide)))
    have f34 := F_remainder_a1.other W5 (Or.inr (slot_ne (Or.inl (hw _ (List.mem_of_getElem? (i := 191) rfl))) (Or.inl (hw _ (List.mem_of_getElem? (i := 161) rfl))) (by decide) (t := .double) (t' := .double) (by decide) (by decide)))
    have f35 := F_created_a1.other W5 (Or.inr (slot_ne (Or.inl (hw _ (List.mem_of_getElem? (i := 193) rfl))) (Or.inl (hw _ (List.mem_of_getElem? (i := 161) rfl))) (by decide) (t := .int) (t' := .double) (by decide) (by decide)))
    refine ⟨_, _, J29 _ ?_, hrun, hended, _, _, rfl, ?_, ⟨_, rfl⟩, hW, hsame.mono (by decide) (by decide)⟩
    · show Steps p.tables e below (T5.setTop (mkF m 21 #[.val (.ref a1), .val (.double x), .second, .val (.double y), .second] [])) _
      exact X5.returnOut hx Bd.returns (hb hby d17_21) hr
    · show Q17 Z a1 lk ent up rem x y h0 n0 _ T5.heap _
      rw [e5]
      exact ⟨rfl, N9, KK8, f31, f32, f33, Fw5, (by rw [if_neg hq]; exact f30), f34, f35⟩
def Q21 (Z : State) (b : UInt64) (h0 : Heap) (n0 : Nat) (v : Option Value) (h : Heap) (L : List Loc) : Prop := v = some (.double (own_min b)) ∧ Fr n0 L ∧ h = h0
theorem own_minBack {l : Launch} {R : Room} {p : Program} {e : Env} {below : List Frame} {s : State} {sargs : Array Value} {W : Nat} {Z : State} {h0 : Heap} {n0 : Nat} (b : UInt64) (hcode : (Jvm.Cond.code (⟨"java/lang/Math", "min", "(DD)D"⟩ : MethodName) jdk_29_method_72_code 4 (some .double)).before sargs s = true) (hn : Jvm.Free.Fl.NoNaN64 b) (hfr : 1 ≤ R.frames) (hlo : W + 15 ≤ R.locals) :
    Back l R p e below s sargs (⟨"java/lang/Math", "min", "(DD)D"⟩ : MethodName) 3 W (fun A a => a = #[.double own_100, .double b] ∧ A.U.heap = h0 ∧ A.cells + 0 ≤ R.cells ∧ A.slots + 0 ≤ R.slots) (fun A _ v B => ∃ L, Q21 Z b h0 n0 v B.U.heap L ∧ B.locs = A.locs ++ L ∧ B.cells = A.cells + 0 ∧ B.slots = A.slots + 0) := by
  have ec : jdk_29_method_72_code = Jvm.Free.Fl.Abs.minDCode := by decide +kernel
  rw [ec] at hcode
  intro m meth c A g ig mk a' X hg hsize hdg hW hnamed hp
  obtain ⟨v, B, X', ⟨e1, e2⟩, st⟩ := Jvm.Free.Fl.Abs.minD_pays (len := 3) (W := W) own_100 b hcode hfr hlo m meth c A g ig mk a' X hg hsize hdg hW hnamed ⟨hp.2.2.1, hp.2.2.2, hp.1, own_n100, hn⟩
  subst e2
  exact ⟨v, B, X', ⟨[], ⟨e1, Fr.nil n0, hp.2.1⟩, (List.append_nil _).symm, rfl, rfl⟩, st⟩
theorem d18_0 : decode prog_8_method_7_code 0 = .ok (.aload_n 0, 1) := by decide +kernel
theorem d18_1 : decode prog_8_method_7_code 1 = .ok (.getfield 58, 3) := by decide +kernel
theorem d18_4 : decode prog_8_method_7_code 4 = .ok (.aload_n 0, 1) := by decide +kernel
theorem d18_5 : decode prog_8_method_7_code 5 = .ok (.getfield 20, 3) := by decide +kernel
theorem d18_8 : decode prog_8_method_7_code 8 = .ok (.ldc2_w 56, 3) := by decide +kernel
theorem d18_11 : decode prog_8_method_7_code 11 = .ok (.ddiv, 1) := by decide +kernel
theorem d18_12 : decode prog_8_method_7_code 12 = .ok (.ddiv, 1) := by decide +kernel
theorem d18_13 : decode prog_8_method_7_code 13 = .ok (.dstore_n 3, 1) := by decide +kernel
theorem d18_14 : decode prog_8_method_7_code 14 = .ok (.aload_n 0, 1) := by decide +kernel
theorem d18_15 : decode prog_8_method_7_code 15 = .ok (.getfield 16, 3) := by decide +kernel
theorem d18_18 : decode prog_8_method_7_code 18 = .ok (.invokevirtual 46, 3) := by decide +kernel
theorem pd_8 : parseMethodDescriptor "()Lcom/example/graded_flow/gradedflow/network/TriangularDiagram;" = some ⟨[], some (.object "com/example/graded_flow/gradedflow/network/TriangularDiagram")⟩ := by decide +kernel
theorem d18_21 : decode prog_8_method_7_code 21 = .ok (.invokevirtual 72, 3) := by decide +kernel
theorem pd_9 : parseMethodDescriptor "()D" = some ⟨[], some .double⟩ := by decide +kernel
theorem d18_24 : decode prog_8_method_7_code 24 = .ok (.dstore 5, 2) := by decide +kernel
theorem d18_26 : decode prog_8_method_7_code 26 = .ok (.aload_n 0, 1) := by decide +kernel
theorem d18_27 : decode prog_8_method_7_code 27 = .ok (.getfield 61, 3) := by decide +kernel
theorem d18_30 : decode prog_8_method_7_code 30 = .ok (.dconst 0, 1) := by decide +kernel
theorem d18_31 : decode prog_8_method_7_code 31 = .ok (.dcmp .l, 1) := by decide +kernel
theorem d18_32 : decode prog_8_method_7_code 32 = .ok (.ifCond .le 16, 3) := by decide +kernel
theorem d18_35 : decode prog_8_method_7_code 35 = .ok (.dload 5, 2) := by decide +kernel
theorem d18_37 : decode prog_8_method_7_code 37 = .ok (.dload_n 3, 1) := by decide +kernel
theorem d18_38 : decode prog_8_method_7_code 38 = .ok (.aload_n 0, 1) := by decide +kernel
theorem d18_39 : decode prog_8_method_7_code 39 = .ok (.getfield 61, 3) := by decide +kernel
theorem d18_42 : decode prog_8_method_7_code 42 = .ok (.ddiv, 1) := by decide +kernel
theorem d18_43 : decode prog_8_method_7_code 43 = .ok (.invokestatic 76, 3) := by decide +kernel
theorem pd_10 : parseMethodDescriptor "(DD)D" = some ⟨[.double, .double], some .double⟩ := by decide +kernel
theorem d18_46 : decode prog_8_method_7_code 46 = .ok (.dstore 5, 2) := by decide +kernel
theorem d18_48 : decode prog_8_method_7_code 48 = .ok (.dload_n 1, 1) := by decide +kernel
theorem d18_49 : decode prog_8_method_7_code 49 = .ok (.aload_n 0, 1) := by decide +kernel
theorem d18_50 : decode prog_8_method_7_code 50 = .ok (.getfield 16, 3) := by decide +kernel
theorem d18_53 : decode prog_8_method_7_code 53 = .ok (.invokevirtual 24, 3) := by decide +kernel
theorem d18_56 : decode prog_8_method_7_code 56 = .ok (.i2d, 1) := by decide +kernel
theorem d18_57 : decode prog_8_method_7_code 57 = .ok (.dmul, 1) := by decide +kernel
theorem d18_58 : decode prog_8_method_7_code 58 = .ok (.dstore 7, 2) := by decide +kernel
theorem d18_60 : decode prog_8_method_7_code 60 = .ok (.dload 7, 2) := by decide +kernel
theorem d18_62 : decode prog_8_method_7_code 62 = .ok (.dconst 0, 1) := by decide +kernel
theorem d18_63 : decode prog_8_method_7_code 63 = .ok (.dcmp .l, 1) := by decide +kernel
theorem d18_64 : decode prog_8_method_7_code 64 = .ok (.ifCond .le 14, 3) := by decide +kernel
theorem d18_78 : decode prog_8_method_7_code 78 = .ok (.dload 5, 2) := by decide +kernel
theorem d18_80 : decode prog_8_method_7_code 80 = .ok (.ldc2_w 80, 3) := by decide +kernel
theorem d18_83 : decode prog_8_method_7_code 83 = .ok (.ddiv, 1) := by decide +kernel
theorem d18_84 : decode prog_8_method_7_code 84 = .ok (.dreturn, 1) := by decide +kernel
theorem pn_18 : plainName "com/example/graded_flow/gradedflow/microscopic/Entry" = true := by first | (simp [plainName, overriddenIn]; done) | decide +kernel
theorem ef_18_xx (m : MethodId) (x0 : Addr) (x1 : UInt64) : entryFrame m #[(.ref x0), (.double x1)] 9 = mkF m 0 #[.val (.ref x0), .val (.double x1), .second, .unset, .unset, .unset, .unset, .unset, .unset] [] := by first | (simp [entryFrame, mkF, argsToLocals, Value.category]; done) | rfl
def Q18 (Z : State) (a1 : Addr) (lk : Addr) (ent : UInt64) (up : UInt64) (rem : UInt64) (rd : Addr) (h0 : Heap) (n0 : Nat) (v : Option Value) (h : Heap) (L : List Loc) : Prop := v = some (.double (FP.ddiv (own_sp ent up) own_36)) ∧ Fr n0 L ∧ h = h0
set_option maxRecDepth 65536 in
set_option maxHeartbeats 40000000 in
theorem rm18 (l : Launch) (Z : State) (a0 : Array Value) (hw : ∀ d ∈ tables_1, d.before a0 Z = true) (ws : List Jvm.Cond) (a1 : Addr) (lk : Addr) (ent : UInt64) (up : UInt64) (rem : UInt64) (rd : Addr) (h0 : Heap) (n0 : Nat) (Z0 : n0 ≤ h0.size) (E_a1 : Exa Z h0 a1 "com/example/graded_flow/gradedflow/microscopic/Entry") (hn : Jvm.Free.Fl.NoNaN64 ent) (hq : (0 : Int32) < cmpValue (FP.dcmp up FP.dconst0) .l → Jvm.Free.Fl.NoNaN64 (FP.ddiv ent up)) (F_link_a1 : Fld Z h0 a1 "com/example/graded_flow/gradedflow/microscopic/Entry" "link" "Lcom/example/graded_flow/gradedflow/network/Link;" (.ref lk)) (F_macroStep_a1 : Fld Z h0 a1 "com/example/graded_flow/gradedflow/microscopic/Entry" "macroStep" "D" (.double own_3600)) (F_entering_a1 : Fld Z h0 a1 "com/example/graded_flow/gradedflow/microscopic/Entry" "entering" "D" (.double ent)) (F_upstreamDensity_a1 : Fld Z h0 a1 "com/example/graded_flow/gradedflow/microscopic/Entry" "upstreamDensity" "D" (.double up)) (F_remainder_a1 : Fld Z h0 a1 "com/example/graded_flow/gradedflow/microscopic/Entry" "remainder" "D" (.double rem)) (F_created_a1 : Fld Z h0 a1 "com/example/graded_flow/gradedflow/microscopic/Entry" "created" "I" (.int (0 : Int32))) (E_lk : Exa Z h0 lk "com/example/graded_flow/gradedflow/network/Link") (F_road_lk : Fld Z h0 lk "com/example/graded_flow/gradedflow/network/Link" "road" "Lcom/example/graded_flow/gradedflow/network/TriangularDiagram;" (.ref rd)) (F_lanes_lk : Fld Z h0 lk "com/example/graded_flow/gradedflow/network/Link" "lanes" "I" (.int (1 : Int32))) (E_rd : Exa Z h0 rd "com/example/graded_flow/gradedflow/network/TriangularDiagram") (F_freeSpeed_rd : Fld Z h0 rd "com/example/graded_flow/gradedflow/network/TriangularDiagram" "freeSpeed" "D" (.double own_100)) :
    MetFree l (⟨"com/example/graded_flow/gradedflow/microscopic/Entry", "entrySpeed", "(D)D"⟩ : MethodName) (head1 (Jvm.Cond.code (⟨"com/example/graded_flow/gradedflow/microscopic/Entry", "entrySpeed", "(D)D"⟩ : MethodName) prog_8_method_7_code 9 (some .double) :: ws) ({ frames := 1, cells := 0, slots := 0, locals := 15 } : Room)) (fun a U => a = #[(.ref a1), (.double FP.dconst0)] ∧ Z.Warmed39 U.vm ∧ U.heap = h0) (fun _ _ _ _ _ => True) (fun _ U o U' => ∃ v L, o = .returned v ∧ Q18 Z a1 lk ent up rem rd h0 n0 v U'.heap L ∧ FrameEnd U o U' L ({ frames := 1, cells := 0, slots := 0, locals := 15 } : Room).cells ({ frames := 1, cells := 0, slots := 0, locals := 15 } : Room).slots) := by
  refine MetFree.of_bodySF (plainFor_of_name pn_18) hisR ?_
  intro p e s m args below meth c s₁ Bd hml0 hP hK
  obtain ⟨rfl, hZ, hh⟩ := hP
  have hx := Bd.exec
  have hby := Bd.bytes
  have hml : c.maxLocals = 9 := hml0
  have hown : s.vm.findClass "com/example/graded_flow/gradedflow/microscopic/Entry" = some m.cls := findClass_of_methodNamed Bd.named
  have hnm := (name_of_methodNamed Bd.named Bd.method).1
  have X0 : Stand p l e ({ frames := 1, cells := 0, slots := 0, locals := 15 } : Room) s m #[(.ref a1), (.double FP.dconst0)] below meth c s₁ [] 0 0 := Stand.of_body Bd
  have e0 : s₁.heap = h0 := by rw [← hh, Bd.state]; rfl
  have N0 := Fr.nil n0
  have pre0 : ∀ t, Steps p.tables e below (s₁.setTop (mkF m 0 #[.val (.ref a1), .val (.double FP.dconst0), .second, .unset, .unset, .unset, .unset, .unset, .unset] [])) t → Steps p.tables e below (s₁.setTop (entryFrame m #[(.ref a1), (.double FP.dconst0)] 9)) t := fun t k => castTop (ef_18_xx m a1 FP.dconst0) k
  have J1 : ∀ t, Steps p.tables e below (s₁.setTop (mkF m 1 #[.val (.ref a1), .val (.double FP.dconst0), .second, .unset, .unset, .unset, .unset, .unset, .unset] [(.ref a1)])) t → Steps p.tables e below (s₁.setTop (entryFrame m #[(.ref a1), (.double FP.dconst0)] 9)) t := fun t k => pre0 t (by
      show Steps p.tables e below (s₁.setTop (mkF m 0 #[.val (.ref a1), .val (.double FP.dconst0), .second, .unset, .unset, .unset, .unset, .unset, .unset] [])) _
      refine XS.aloadN X0.here hx rfl (hb hby d18_0) rfl rfl ?_
      exact k)
  obtain ⟨T2, X2, e2, st2⟩ := getF X0 hx hZ hown (host := "") (Or.inl (hw _ (List.mem_of_getElem? (i := 160) rfl))) Via.refl e0 F_entering_a1 (g := (mkF m 1 #[.val (.ref a1), .val (.double FP.dconst0), .second, .unset, .unset, .unset, .unset, .unset, .unset] [(.ref a1)])) rfl rfl (hb hby d18_1)
  have J3 : ∀ t, Steps p.tables e below (T2.setTop (mkF m 4 #[.val (.ref a1), .val (.double FP.dconst0), .second, .unset, .unset, .unset, .unset, .unset, .unset] [(.double ent)])) t → Steps p.tables e below (s₁.setTop (entryFrame m #[(.ref a1), (.double FP.dconst0)] 9)) t := fun t k => J1 t (st2 t k)
  have J4 : ∀ t, Steps p.tables e below (T2.setTop (mkF m 5 #[.val (.ref a1), .val (.double FP.dconst0), .second, .unset, .unset, .unset, .unset, .unset, .unset] [(.ref a1), (.double ent)])) t → Steps p.tables e below (s₁.setTop (entryFrame m #[(.ref a1), (.double FP.dconst0)] 9)) t := fun t k => J3 t (by
      show Steps p.tables e below (T2.setTop (mkF m 4 #[.val (.ref a1), .val (.double FP.dconst0), .second, .unset, .unset, .unset, .unset, .unset, .unset] [(.double ent)])) _
      refine XS.aloadN X2.here hx rfl (hb hby d18_4) rfl rfl ?_
      exact k)
  obtain ⟨T5, X5, e5, st5⟩ := getF X2 hx hZ hown (host := "") (Or.inl (hw _ (List.mem_of_getElem? (i := 102) rfl))) Via.refl e2 F_macroStep_a1 (g := (mkF m 5 #[.val (.ref a1), .val (.double FP.dconst0), .second, .unset, .unset, .unset, .unset, .unset, .unset] [(.ref a1), (.double ent)])) rfl rfl (hb hby d18_5)
  have J6 : ∀ t, Steps p.tables e below (T5.setTop (mkF m 8 #[.val (.ref a1), .val (.double FP.dconst0), .second, .unset, .unset, .unset, .unset, .unset, .unset] [(.double own_3600), (.double ent)])) t → Steps p.tables e below (s₁.setTop (entryFrame m #[(.ref a1), (.double FP.dconst0)] 9)) t := fun t k => J4 t (st5 t k)
  have J7 : ∀ t, Steps p.tables e below (T5.setTop (mkF m 13 #[.val (.ref a1), .val (.double FP.dconst0), .second, .unset, .unset, .unset, .unset, .unset, .unset] [(.double (FP.ddiv ent (FP.ddiv own_3600 (4660134898793709568 : UInt64))))])) t → Steps p.tables e below (s₁.setTop (entryFrame m #[(.ref a1), (.double FP.dconst0)] 9)) t := fun t k => J6 t (by
      show Steps p.tables e below (T5.setTop (mkF m 8 #[.val (.ref a1), .val (.double FP.dconst0), .second, .unset, .unset, .unset, .unset, .unset, .unset] [(.double own_3600), (.double ent)])) _
      refine X5.ldc2DoubleC hx hown (mvT hZ (hw _ (List.mem_of_getElem? (i := 169) rfl))) (g := (mkF m 8 #[.val (.ref a1), .val (.double FP.dconst0), .second, .unset, .unset, .unset, .unset, .unset, .unset] [(.double own_3600), (.double ent)])) rfl (hb hby d18_8) _ ?_
      show Steps p.tables e below (T5.setTop (mkF m 11 #[.val (.ref a1), .val (.double FP.dconst0), .second, .unset, .unset, .unset, .unset, .unset, .unset] [(.double (4660134898793709568 : UInt64)), (.double own_3600), (.double ent)])) _
      refine XS.ddivS X5.here hx rfl (hb hby d18_11) rfl own_n36 rfl ?_
      show Steps p.tables e below (T5.setTop (mkF m 12 #[.val (.ref a1), .val (.double FP.dconst0), .second, .unset, .unset, .unset, .unset, .unset, .unset] [(.double (FP.ddiv own_3600 (4660134898793709568 : UInt64))), (.double ent)])) _
      refine XS.ddivS X5.here hx rfl (hb hby d18_12) rfl (own_nd1 hn) rfl ?_
      exact k)
  have J8 : ∀ t, Steps p.tables e below (T5.setTop (mkF m 13 #[.val (.ref a1), .val (.double FP.dconst0), .second, .unset, .unset, .unset, .unset, .unset, .unset] [(.double ent)])) t → Steps p.tables e below (s₁.setTop (entryFrame m #[(.ref a1), (.double FP.dconst0)] 9)) t := fun t k => J7 t (by rw [own_div1 hn]; exact k)
  have J9 : ∀ t, Steps p.tables e below (T5.setTop (mkF m 15 #[.val (.ref a1), .val (.double FP.dconst0), .second, .val (.double ent), .second, .unset, .unset, .unset, .unset] [(.ref a1)])) t → Steps p.tables e below (s₁.setTop (entryFrame m #[(.ref a1), (.double FP.dconst0)] 9)) t := fun t k => J8 t (by
      show Steps p.tables e below (T5.setTop (mkF m 13 #[.val (.ref a1), .val (.double FP.dconst0), .second, .unset, .unset, .unset, .unset, .unset, .unset] [(.double ent)])) _
      refine XS.dstoreN X5.here hx rfl (hb hby d18_13) rfl (l' := #[.val (.ref a1), .val (.double FP.dconst0), .second, .val (.double ent), .second, .unset, .unset, .unset, .unset]) rfl ?_
      show Steps p.tables e below (T5.setTop (mkF m 14 #[.val (.ref a1), .val (.double FP.dconst0), .second, .val (.double ent), .second, .unset, .unset, .unset, .unset] [])) _
      refine XS.aloadN X5.here hx rfl (hb hby d18_14) rfl rfl ?_
      exact k)
  obtain ⟨T10, X10, e10, st10⟩ := getF X5 hx hZ hown (host := "") (Or.inl (hw _ (List.mem_of_getElem? (i := 100) rfl))) Via.refl e5 F_link_a1 (g := (mkF m 15 #[.val (.ref a1), .val (.double FP.dconst0), .second, .val (.double ent), .second, .unset, .unset, .unset, .unset] [(.ref a1)])) rfl rfl (hb hby d18_15)
  have J11 : ∀ t, Steps p.tables e below (T10.setTop (mkF m 18 #[.val (.ref a1), .val (.double FP.dconst0), .second, .val (.double ent), .second, .unset, .unset, .unset, .unset] [(.ref lk)])) t → Steps p.tables e below (s₁.setTop (entryFrame m #[(.ref a1), (.double FP.dconst0)] 9)) t := fun t k => J9 t (st10 t k)
  obtain ⟨cq12, kq12, q12a, q12b, q12c⟩ := isOf hZ e10 E_lk
  obtain ⟨_, _, ⟨T12, L12, k12, n12⟩, -, X12, ⟨Lc12, hQ12, l12, y12, z12⟩, st12⟩ := X10.virtualBack hx (y := (⟨"com/example/graded_flow/gradedflow/network/Link", "road", "()Lcom/example/graded_flow/gradedflow/network/TriangularDiagram;"⟩ : MethodName)) (z := (⟨"com/example/graded_flow/gradedflow/network/Link", "road", "()Lcom/example/graded_flow/gradedflow/network/TriangularDiagram;"⟩ : MethodName)) hown (mvT hZ (hw _ (List.mem_of_getElem? (i := 170) rfl))) (mvT hZ (hw _ (List.mem_of_getElem? (i := 171) rfl))) (notFace_of_selects (args := #[]) (mvT hZ (hw _ (List.mem_of_getElem? (i := 173) rfl)))) (mvT hZ (hw _ (List.mem_of_getElem? (i := 173) rfl))) (mvT hZ (hw _ (List.mem_of_getElem? (i := 172) rfl))) (by decide) (backOf (W := 0) (rm19 l Z a0 hw [] lk rd h0 n0 Z0 F_road_lk) hZ (hw _ (List.mem_of_getElem? (i := 174) rfl)) (hw _ (List.mem_of_getElem? (i := 42) rfl)) (by decide) (by decide)) q12a q12c (g := (mkF m 18 #[.val (.ref a1), .val (.double FP.dconst0), .second, .val (.double ent), .second, .unset, .unset, .unset, .unset] [(.ref lk)])) rfl (by rw [hml]; rfl) (Steps.refl _) (argsL := []) (rest := []) (lenOf pd_8 rfl) rfl (by show 2 * 0 + _ ≤ _; exact Nat.le_of_eq rfl) (hb hby d18_18) (fun _ _ => ⟨rfl, e10, (by decide : 0 + 0 ≤ _), (by decide : 0 + 0 ≤ _)⟩)
  dsimp only [Pt.U, Pt.locs, Pt.cells, Pt.slots] at X12 l12 y12 z12 st12 hQ12
  subst l12 y12 z12
  obtain ⟨rfl, Nq12, e12⟩ := hQ12
  have N13 := Fr.app N0 Nq12
  have J14 : ∀ t, Steps p.tables e below (T12.setTop (mkF m 21 #[.val (.ref a1), .val (.double FP.dconst0), .second, .val (.double ent), .second, .unset, .unset, .unset, .unset] [(.ref rd)])) t → Steps p.tables e below (s₁.setTop (entryFrame m #[(.ref a1), (.double FP.dconst0)] 9)) t := fun t k => J11 t (st12.trans k)
  obtain ⟨cq15, kq15, q15a, q15b, q15c⟩ := isOf hZ e12 E_rd
  obtain ⟨_, _, ⟨T15, L15, k15, n15⟩, -, X15, ⟨Lc15, hQ15, l15, y15, z15⟩, st15⟩ := X12.virtualBack hx (y := (⟨"com/example/graded_flow/gradedflow/network/TriangularDiagram", "freeSpeed", "()D"⟩ : MethodName)) (z := (⟨"com/example/graded_flow/gradedflow/network/TriangularDiagram", "freeSpeed", "()D"⟩ : MethodName)) hown (mvT hZ (hw _ (List.mem_of_getElem? (i := 175) rfl))) (mvT hZ (hw _ (List.mem_of_getElem? (i := 176) rfl))) (notFace_of_selects (args := #[]) (mvT hZ (hw _ (List.mem_of_getElem? (i := 178) rfl)))) (mvT hZ (hw _ (List.mem_of_getElem? (i := 178) rfl))) (mvT hZ (hw _ (List.mem_of_getElem? (i := 177) rfl))) (by decide) (backOf (W := 0) (rm20 l Z a0 hw [] rd own_100 h0 n0 Z0 F_freeSpeed_rd) hZ (hw _ (List.mem_of_getElem? (i := 179) rfl)) (hw _ (List.mem_of_getElem? (i := 2) rfl)) (by decide) (by decide)) q15a q15c (g := (mkF m 21 #[.val (.ref a1), .val (.double FP.dconst0), .second, .val (.double ent), .second, .unset, .unset, .unset, .unset] [(.ref rd)])) rfl (by rw [hml]; rfl) (Steps.refl _) (argsL := []) (rest := []) (lenOf pd_9 rfl) rfl (by show 2 * 0 + _ ≤ _; exact Nat.le_of_eq rfl) (hb hby d18_21) (fun _ _ => ⟨rfl, e12, (by decide : 0 + 0 ≤ _), (by decide : 0 + 0 ≤ _)⟩)
  dsimp only [Pt.U, Pt.locs, Pt.cells, Pt.slots] at X15 l15 y15 z15 st15 hQ15
  subst l15 y15 z15
  obtain ⟨rfl, Nq15, e15⟩ := hQ15
  have N16 := Fr.app N13 Nq15
  have J17 : ∀ t, Steps p.tables e below (T15.setTop (mkF m 24 #[.val (.ref a1), .val (.double FP.dconst0), .second, .val (.double ent), .second, .unset, .unset, .unset, .unset] [(.double own_100)])) t → Steps p.tables e below (s₁.setTop (entryFrame m #[(.ref a1), (.double FP.dconst0)] 9)) t := fun t k => J14 t (st15.trans k)
  have J18 : ∀ t, Steps p.tables e below (T15.setTop (mkF m 27 #[.val (.ref a1), .val (.double FP.dconst0), .second, .val (.double ent), .second, .val (.double own_100), .second, .unset, .unset] [(.ref a1)])) t → Steps p.tables e below (s₁.setTop (entryFrame m #[(.ref a1), (.double FP.dconst0)] 9)) t := fun t k => J17 t (by
      show Steps p.tables e below (T15.setTop (mkF m 24 #[.val (.ref a1), .val (.double FP.dconst0), .second, .val (.double ent), .second, .unset, .unset, .unset, .unset] [(.double own_100)])) _
      refine XS.dstore X15.here hx rfl (hb hby d18_24) rfl (l' := #[.val (.ref a1), .val (.double FP.dconst0), .second, .val (.double ent), .second, .val (.double own_100), .second, .unset, .unset]) rfl ?_
      show Steps p.tables e below (T15.setTop (mkF m 26 #[.val (.ref a1), .val (.double FP.dconst0), .second, .val (.double ent), .second, .val (.double own_100), .second, .unset, .unset] [])) _
      refine XS.aloadN X15.here hx rfl (hb hby d18_26) rfl rfl ?_
      exact k)
  obtain ⟨T19, X19, e19, st19⟩ := getF X15 hx hZ hown (host := "") (Or.inl (hw _ (List.mem_of_getElem? (i := 162) rfl))) Via.refl e15 F_upstreamDensity_a1 (g := (mkF m 27 #[.val (.ref a1), .val (.double FP.dconst0), .second, .val (.double ent), .second, .val (.double own_100), .second, .unset, .unset] [(.ref a1)])) rfl rfl (hb hby d18_27)
  have J20 : ∀ t, Steps p.tables e below (T19.setTop (mkF m 30 #[.val (.ref a1), .val (.double FP.dconst0), .second, .val (.double ent), .second, .val (.double own_100), .second, .unset, .unset] [(.double up)])) t → Steps p.tables e below (s₁.setTop (entryFrame m #[(.ref a1), (.double FP.dconst0)] 9)) t := fun t k => J18 t (st19 t k)
  have J21 : ∀ t, Steps p.tables e below (T19.setTop (mkF m 32 #[.val (.ref a1), .val (.double FP.dconst0), .second, .val (.double ent), .second, .val (.double own_100), .second, .unset, .unset] [(.int (cmpValue (FP.dcmp up FP.dconst0) .l))])) t → Steps p.tables e below (s₁.setTop (entryFrame m #[(.ref a1), (.double FP.dconst0)] 9)) t := fun t k => J20 t (by
      show Steps p.tables e below (T19.setTop (mkF m 30 #[.val (.ref a1), .val (.double FP.dconst0), .second, .val (.double ent), .second, .val (.double own_100), .second, .unset, .unset] [(.double up)])) _
      refine XS.dconst0 X19.here hx rfl (hb hby d18_30) rfl ?_
      show Steps p.tables e below (T19.setTop (mkF m 31 #[.val (.ref a1), .val (.double FP.dconst0), .second, .val (.double ent), .second, .val (.double own_100), .second, .unset, .unset] [(.double FP.dconst0), (.double up)])) _
      refine XS.dcmpS X19.here hx rfl (hb hby d18_31) rfl rfl ?_
      exact k)
  by_cases hu : (0 : Int32) < cmpValue (FP.dcmp up FP.dconst0) .l
  ·
    have J22 : ∀ t, Steps p.tables e below (T19.setTop (mkF m 39 #[.val (.ref a1), .val (.double FP.dconst0), .second, .val (.double ent), .second, .val (.double own_100), .second, .unset, .unset] [(.ref a1), (.double ent), (.double own_100)])) t → Steps p.tables e below (s₁.setTop (entryFrame m #[(.ref a1), (.double FP.dconst0)] 9)) t := fun t k => J21 t (by
        show Steps p.tables e below (T19.setTop (mkF m 32 #[.val (.ref a1), .val (.double FP.dconst0), .second, .val (.double ent), .second, .val (.double own_100), .second, .unset, .unset] [(.int (cmpValue (FP.dcmp up FP.dconst0) .l))])) _
        refine XS.ifNo X19.here hx rfl (hb hby d18_32) rfl ((if0 _ _).trans (tlt hu).2.2.2) ?_
        show Steps p.tables e below (T19.setTop (mkF m 35 #[.val (.ref a1), .val (.double FP.dconst0), .second, .val (.double ent), .second, .val (.double own_100), .second, .unset, .unset] [])) _
        refine XS.dload X19.here hx rfl (hb hby d18_35) rfl ?_
        show Steps p.tables e below (T19.setTop (mkF m 37 #[.val (.ref a1), .val (.double FP.dconst0), .second, .val (.double ent), .second, .val (.double own_100), .second, .unset, .unset] [(.double own_100)])) _
        refine XS.dloadN X19.here hx rfl (hb hby d18_37) rfl ?_
        show Steps p.tables e below (T19.setTop (mkF m 38 #[.val (.ref a1), .val (.double FP.dconst0), .second, .val (.double ent), .second, .val (.double own_100), .second, .unset, .unset] [(.double ent), (.double own_100)])) _
        refine XS.aloadN X19.here hx rfl (hb hby d18_38) rfl rfl ?_
        exact k)
    obtain ⟨T23, X23, e23, st23⟩ := getF X19 hx hZ hown (host := "") (Or.inl (hw _ (List.mem_of_getElem? (i := 162) rfl))) Via.refl e19 F_upstreamDensity_a1 (g := (mkF m 39 #[.val (.ref a1), .val (.double FP.dconst0), .second, .val (.double ent), .second, .val (.double own_100), .second, .unset, .unset] [(.ref a1), (.double ent), (.double own_100)])) rfl rfl (hb hby d18_39)
    have J24 : ∀ t, Steps p.tables e below (T23.setTop (mkF m 42 #[.val (.ref a1), .val (.double FP.dconst0), .second, .val (.double ent), .second, .val (.double own_100), .second, .unset, .unset] [(.double up), (.double ent), (.double own_100)])) t → Steps p.tables e below (s₁.setTop (entryFrame m #[(.ref a1), (.double FP.dconst0)] 9)) t := fun t k => J22 t (st23 t k)
    have J25 : ∀ t, Steps p.tables e below (T23.setTop (mkF m 43 #[.val (.ref a1), .val (.double FP.dconst0), .second, .val (.double ent), .second, .val (.double own_100), .second, .unset, .unset] [(.double (FP.ddiv ent up)), (.double own_100)])) t → Steps p.tables e below (s₁.setTop (entryFrame m #[(.ref a1), (.double FP.dconst0)] 9)) t := fun t k => J24 t (by
        show Steps p.tables e below (T23.setTop (mkF m 42 #[.val (.ref a1), .val (.double FP.dconst0), .second, .val (.double ent), .second, .val (.double own_100), .second, .unset, .unset] [(.double up), (.double ent), (.double own_100)])) _
        refine XS.ddivS X23.here hx rfl (hb hby d18_42) rfl (hq hu) rfl ?_
        exact k)
    obtain ⟨_, _, ⟨T26, L26, k26, n26⟩, -, X26, ⟨Lc26, hQ26, l26, y26, z26⟩, st26⟩ := Jvm.LawKit.callS X23 hx (y := (⟨"java/lang/Math", "min", "(DD)D"⟩ : MethodName)) hown (mvT hZ (hw _ (List.mem_of_getElem? (i := 180) rfl))) (mvT hZ (hw _ (List.mem_of_getElem? (i := 181) rfl))) (mvT hZ (hw _ (List.mem_of_getElem? (i := 151) rfl))) (mvT hZ (hw _ (List.mem_of_getElem? (i := 182) rfl))) (by decide) (own_minBack (Z := Z) (h0 := h0) (n0 := n0) (W := 0) (FP.ddiv ent up) (mvT hZ (hw _ (List.mem_of_getElem? (i := 182) rfl))) (hq hu) (by decide) (by decide)) (g := (mkF m 43 #[.val (.ref a1), .val (.double FP.dconst0), .second, .val (.double ent), .second, .val (.double own_100), .second, .unset, .unset] [(.double (FP.ddiv ent up)), (.double own_100)])) rfl (by rw [hml]; rfl) (argsL := [(.double own_100), (.double (FP.ddiv ent up))]) (rest := []) (lenOf pd_10 rfl) rfl (by show 2 * 0 + _ ≤ _; exact Nat.le_of_eq rfl) (hb hby d18_43) (fun _ _ => ⟨rfl, e23, (by decide : 0 + 0 ≤ _), (by decide : 0 + 0 ≤ _)⟩)
    dsimp only [Pt.U, Pt.locs, Pt.cells, Pt.slots] at X26 l26 y26 z26 st26 hQ26
    subst l26 y26 z26
    obtain ⟨rfl, Nq26, e26⟩ := hQ26
    have N27 := Fr.app N16 Nq26
    have J28 : ∀ t, Steps p.tables e below (T26.setTop (mkF m 46 #[.val (.ref a1), .val (.double FP.dconst0), .second, .val (.double ent), .second, .val (.double own_100), .second, .unset, .unset] [(.double (own_min (FP.ddiv ent up)))])) t → Steps p.tables e below (s₁.setTop (entryFrame m #[(.ref a1), (.double FP.dconst0)] 9)) t := fun t k => J25 t (st26 t k)
    have J29 : ∀ t, Steps p.tables e below (T26.setTop (mkF m 50 #[.val (.ref a1), .val (.double FP.dconst0), .second, .val (.double ent), .second, .val (.double (own_min (FP.ddiv ent up))), .second, .unset, .unset] [(.ref a1), (.double FP.dconst0)])) t → Steps p.tables e below (s₁.setTop (entryFrame m #[(.ref a1), (.double FP.dconst0)] 9)) t := fun t k => J28 t (by
        show Steps p.tables e below (T26.setTop (mkF m 46 #[.val (.ref a1), .val (.double FP.dconst0), .second, .val (.double ent), .second, .val (.double own_100), .second, .unset, .unset] [(.double (own_min (FP.ddiv ent up)))])) _
        refine XS.dstore X26.here hx rfl (hb hby d18_46) rfl (l' := #[.val (.ref a1), .val (.double FP.dconst0), .second, .val (.double ent), .second, .val (.double (own_min (FP.ddiv ent up))), .second, .unset, .unset]) rfl ?_
        show Steps p.tables e below (T26.setTop (mkF m 48 #[.val (.ref a1), .val (.double FP.dconst0), .second, .val (.double ent), .second, .val (.double (own_min (FP.ddiv ent up))), .second, .unset, .unset] [])) _
        refine XS.dloadN X26.here hx rfl (hb hby d18_48) rfl ?_
        show Steps p.tables e below (T26.setTop (mkF m 49 #[.val (.ref a1), .val (.double FP.dconst0), .second, .val (.double ent), .second, .val (.double (own_min (FP.ddiv ent up))), .second, .unset, .unset] [(.double FP.dconst0)])) _
        refine XS.aloadN X26.here hx rfl (hb hby d18_49) rfl rfl ?_
        exact k)
    obtain ⟨T30, X30, e30, st30⟩ := getF X26 hx hZ hown (host := "") (Or.inl (hw _ (List.mem_of_getElem? (i := 100) rfl))) Via.refl e26 F_link_a1 (g := (mkF m 50 #[.val (.ref a1), .val (.double FP.dconst0), .second, .val (.double ent), .second, .val (.double (own_min (FP.ddiv ent up))), .second, .unset, .unset] [(.ref a1), (.double FP.dconst0)])) rfl rfl (hb hby d18_50)
    have J31 : ∀ t, Steps p.tables e below (T30.setTop (mkF m 53 #[.val (.ref a1), .val (.double FP.dconst0), .second, .val (.double ent), .second, .val (.double (own_min (FP.ddiv ent up))), .second, .unset, .unset] [(.ref lk), (.double FP.dconst0)])) t → Steps p.tables e below (s₁.setTop (entryFrame m #[(.ref a1), (.double FP.dconst0)] 9)) t := fun t k => J29 t (st30 t k)
    obtain ⟨cq32, kq32, q32a, q32b, q32c⟩ := isOf hZ e30 E_lk
    obtain ⟨_, _, ⟨T32, L32, k32, n32⟩, -, X32, ⟨Lc32, hQ32, l32, y32, z32⟩, st32⟩ := X30.virtualBack hx (y := (⟨"com/example/graded_flow/gradedflow/network/Link", "lanes", "()I"⟩ : MethodName)) (z := (⟨"com/example/graded_flow/gradedflow/network/Link", "lanes", "()I"⟩ : MethodName)) hown (mvT hZ (hw _ (List.mem_of_getElem? (i := 104) rfl))) (mvT hZ (hw _ (List.mem_of_getElem? (i := 105) rfl))) (notFace_of_selects (args := #[]) (mvT hZ (hw _ (List.mem_of_getElem? (i := 107) rfl)))) (mvT hZ (hw _ (List.mem_of_getElem? (i := 107) rfl))) (mvT hZ (hw _ (List.mem_of_getElem? (i := 106) rfl))) (by decide) (backOf (W := 2) (rm10 l Z a0 hw [] lk (1 : Int32) h0 n0 Z0 F_lanes_lk) hZ (hw _ (List.mem_of_getElem? (i := 108) rfl)) (hw _ (List.mem_of_getElem? (i := 42) rfl)) (by decide) (by decide)) q32a q32c (g := (mkF m 53 #[.val (.ref a1), .val (.double FP.dconst0), .second, .val (.double ent), .second, .val (.double (own_min (FP.ddiv ent up))), .second, .unset, .unset] [(.ref lk), (.double FP.dconst0)])) rfl (by rw [hml]; rfl) (Steps.refl _) (argsL := []) (rest := [(.double FP.dconst0)]) (lenOf pd_6 rfl) rfl (by show 2 * 0 + _ ≤ _; exact Nat.le_of_eq rfl) (hb hby d18_53) (fun _ _ => ⟨rfl, e30, (by decide : 0 + 0 ≤ _), (by decide : 0 + 0 ≤ _)⟩)
    dsimp only [Pt.U, Pt.locs, Pt.cells, Pt.slots] at X32 l32 y32 z32 st32 hQ32
    subst l32 y32 z32
    obtain ⟨rfl, Nq32, e32⟩ := hQ32
    have N33 := Fr.app N27 Nq32
    have J34 : ∀ t, Steps p.tables e below (T32.setTop (mkF m 56 #[.val (.ref a1), .val (.double FP.dconst0), .second, .val (.double ent), .second, .val (.double (own_min (FP.ddiv ent up))), .second, .unset, .unset] [(.int (1 : Int32)), (.double FP.dconst0)])) t → Steps p.tables e below (s₁.setTop (entryFrame m #[(.ref a1), (.double FP.dconst0)] 9)) t := fun t k => J31 t (st32.trans k)
    have J35 : ∀ t, Steps p.tables e below (T32.setTop (mkF m 84 #[.val (.ref a1), .val (.double FP.dconst0), .second, .val (.double ent), .second, .val (.double (own_min (FP.ddiv ent up))), .second, .val (.double (FP.dmul FP.dconst0 (FP.i2d (1 : Int32)))), .second] [(.double (FP.ddiv (own_min (FP.ddiv ent up)) (4615288898129284301 : UInt64)))])) t → Steps p.tables e below (s₁.setTop (entryFrame m #[(.ref a1), (.double FP.dconst0)] 9)) t := fun t k => J34 t (by
        show Steps p.tables e below (T32.setTop (mkF m 56 #[.val (.ref a1), .val (.double FP.dconst0), .second, .val (.double ent), .second, .val (.double (own_min (FP.ddiv ent up))), .second, .unset, .unset] [(.int (1 : Int32)), (.double FP.dconst0)])) _
        refine XS.i2dS X32.here hx rfl (hb hby d18_56) rfl rfl ?_
        show Steps p.tables e below (T32.setTop (mkF m 57 #[.val (.ref a1), .val (.double FP.dconst0), .second, .val (.double ent), .second, .val (.double (own_min (FP.ddiv ent up))), .second, .unset, .unset] [(.double (FP.i2d (1 : Int32))), (.double FP.dconst0)])) _
        refine XS.dmulS X32.here hx rfl (hb hby d18_57) rfl (by unfold Jvm.Free.Fl.NoNaN64; decide +kernel) rfl ?_
        show Steps p.tables e below (T32.setTop (mkF m 58 #[.val (.ref a1), .val (.double FP.dconst0), .second, .val (.double ent), .second, .val (.double (own_min (FP.ddiv ent up))), .second, .unset, .unset] [(.double (FP.dmul FP.dconst0 (FP.i2d (1 : Int32))))])) _
        refine XS.dstore X32.here hx rfl (hb hby d18_58) rfl (l' := #[.val (.ref a1), .val (.double FP.dconst0), .second, .val (.double ent), .second, .val (.double (own_min (FP.ddiv ent up))), .second, .val (.double (FP.dmul FP.dconst0 (FP.i2d (1 : Int32)))), .second]) rfl ?_
        show Steps p.tables e below (T32.setTop (mkF m 60 #[.val (.ref a1), .val (.double FP.dconst0), .second, .val (.double ent), .second, .val (.double (own_min (FP.ddiv ent up))), .second, .val (.double (FP.dmul FP.dconst0 (FP.i2d (1 : Int32)))), .second] [])) _
        refine XS.dload X32.here hx rfl (hb hby d18_60) rfl ?_
        show Steps p.tables e below (T32.setTop (mkF m 62 #[.val (.ref a1), .val (.double FP.dconst0), .second, .val (.double ent), .second, .val (.double (own_min (FP.ddiv ent up))), .second, .val (.double (FP.dmul FP.dconst0 (FP.i2d (1 : Int32)))), .second] [(.double (FP.dmul FP.dconst0 (FP.i2d (1 : Int32))))])) _
        refine XS.dconst0 X32.here hx rfl (hb hby d18_62) rfl ?_
        show Steps p.tables e below (T32.setTop (mkF m 63 #[.val (.ref a1), .val (.double FP.dconst0), .second, .val (.double ent), .second, .val (.double (own_min (FP.ddiv ent up))), .second, .val (.double (FP.dmul FP.dconst0 (FP.i2d (1 : Int32)))), .second] [(.double FP.dconst0), (.double (FP.dmul FP.dconst0 (FP.i2d (1 : Int32))))])) _
        refine XS.dcmpS X32.here hx rfl (hb hby d18_63) rfl rfl ?_
        show Steps p.tables e below (T32.setTop (mkF m 64 #[.val (.ref a1), .val (.double FP.dconst0), .second, .val (.double ent), .second, .val (.double (own_min (FP.ddiv ent up))), .second, .val (.double (FP.dmul FP.dconst0 (FP.i2d (1 : Int32)))), .second] [(.int (cmpValue (FP.dcmp (FP.dmul FP.dconst0 (FP.i2d (1 : Int32))) FP.dconst0) .l))])) _
        refine XS.ifYes X32.here hx rfl (pc0 := 64) (pc' := 78) rfl (hb hby d18_64) rfl ((if0 _ _).trans (flt (by decide +kernel)).2.2.2) (by decide) (by decide) ?_
        show Steps p.tables e below (T32.setTop (mkF m 78 #[.val (.ref a1), .val (.double FP.dconst0), .second, .val (.double ent), .second, .val (.double (own_min (FP.ddiv ent up))), .second, .val (.double (FP.dmul FP.dconst0 (FP.i2d (1 : Int32)))), .second] [])) _
        refine XS.dload X32.here hx rfl (hb hby d18_78) rfl ?_
        show Steps p.tables e below (T32.setTop (mkF m 80 #[.val (.ref a1), .val (.double FP.dconst0), .second, .val (.double ent), .second, .val (.double (own_min (FP.ddiv ent up))), .second, .val (.double (FP.dmul FP.dconst0 (FP.i2d (1 : Int32)))), .second] [(.double (own_min (FP.ddiv ent up)))])) _
        refine X32.ldc2DoubleC hx hown (mvT hZ (hw _ (List.mem_of_getElem? (i := 183) rfl))) (g := (mkF m 80 #[.val (.ref a1), .val (.double FP.dconst0), .second, .val (.double ent), .second, .val (.double (own_min (FP.ddiv ent up))), .second, .val (.double (FP.dmul FP.dconst0 (FP.i2d (1 : Int32)))), .second] [(.double (own_min (FP.ddiv ent up)))])) rfl (hb hby d18_80) _ ?_
        show Steps p.tables e below (T32.setTop (mkF m 83 #[.val (.ref a1), .val (.double FP.dconst0), .second, .val (.double ent), .second, .val (.double (own_min (FP.ddiv ent up))), .second, .val (.double (FP.dmul FP.dconst0 (FP.i2d (1 : Int32)))), .second] [(.double (4615288898129284301 : UInt64)), (.double (own_min (FP.ddiv ent up)))])) _
        refine XS.ddivS X32.here hx rfl (hb hby d18_83) rfl (own_n3 (own_nmin (hq hu))) rfl ?_
        exact k)
    obtain ⟨fs, hr, hrun, hended, hW, hsame⟩ := X32.leave (v := some (.double (FP.ddiv (own_min (FP.ddiv ent up)) (4615288898129284301 : UInt64)))) (fun h => by rw [Bd.returns] at h; cases h)
    refine ⟨_, _, J35 _ ?_, hrun, hended, _, _, rfl, ?_, ⟨_, rfl⟩, hW, hsame.mono (by decide) (by decide)⟩
    · show Steps p.tables e below (T32.setTop (mkF m 84 #[.val (.ref a1), .val (.double FP.dconst0), .second, .val (.double ent), .second, .val (.double (own_min (FP.ddiv ent up))), .second, .val (.double (FP.dmul FP.dconst0 (FP.i2d (1 : Int32)))), .second] [(.double (FP.ddiv (own_min (FP.ddiv ent up)) (4615288898129284301 : UInt64)))])) _
      exact retD X32 hx Bd.returns (hb hby d18_84) hr
    · show Q18 Z a1 lk ent up rem rd h0 n0 _ T32.heap _
      rw [e32]
      exact ⟨(by rw [show own_sp ent up = own_min (FP.ddiv ent up) from if_pos hu]), N33, rfl⟩
  ·
    have J36 : ∀ t, Steps p.tables e below (T19.setTop (mkF m 50 #[.val (.ref a1), .val (.double FP.dconst0), .second, .val (.double ent), .second, .val (.double own_100), .second, .unset, .unset] [(.ref a1), (.double FP.dconst0)])) t → Steps p.tables e below (s₁.setTop (entryFrame m #[(.ref a1), (.double FP.dconst0)] 9)) t := fun t k => J21 t (by
        show Steps p.tables e below (T19.setTop (mkF m 32 #[.val (.ref a1), .val (.double FP.dconst0), .second, .val (.double ent), .second, .val (.double own_100), .second, .unset, .unset] [(.int (cmpValue (FP.dcmp up FP.dconst0) .l))])) _
        refine XS.ifYes X19.here hx rfl (pc0 := 32) (pc' := 48) rfl (hb hby d18_32) rfl ((if0 _ _).trans (flt hu).2.2.2) (by decide) (by decide) ?_
        show Steps p.tables e below (T19.setTop (mkF m 48 #[.val (.ref a1), .val (.double FP.dconst0), .second, .val (.double ent), .second, .val (.double own_100), .second, .unset, .unset] [])) _
        refine XS.dloadN X19.here hx rfl (hb hby d18_48) rfl ?_
        show Steps p.tables e below (T19.setTop (mkF m 49 #[.val (.ref a1), .val (.double FP.dconst0), .second, .val (.double ent), .second, .val (.double own_100), .second, .unset, .unset] [(.double FP.dconst0)])) _
        refine XS.aloadN X19.here hx rfl (hb hby d18_49) rfl rfl ?_
        exact k)
    obtain ⟨T37, X37, e37, st37⟩ := getF X19 hx hZ hown (host := "") (Or.inl (hw _ (List.mem_of_getElem? (i := 100) rfl))) Via.refl e19 F_link_a1 (g := (mkF m 50 #[.val (.ref a1), .val (.double FP.dconst0), .second, .val (.double ent), .second, .val (.double own_100), .second, .unset, .unset] [(.ref a1), (.double FP.dconst0)])) rfl rfl (hb hby d18_50)
    have J38 : ∀ t, Steps p.tables e below (T37.setTop (mkF m 53 #[.val (.ref a1), .val (.double FP.dconst0), .second, .val (.double ent), .second, .val (.double own_100), .second, .unset, .unset] [(.ref lk), (.double FP.dconst0)])) t → Steps p.tables e below (s₁.setTop (entryFrame m #[(.ref a1), (.double FP.dconst0)] 9)) t := fun t k => J36 t (st37 t k)
    obtain ⟨cq39, kq39, q39a, q39b, q39c⟩ := isOf hZ e37 E_lk
    obtain ⟨_, _, ⟨T39, L39, k39, n39⟩, -, X39, ⟨Lc39, hQ39, l39, y39, z39⟩, st39⟩ := X37.virtualBack hx (y := (⟨"com/example/graded_flow/gradedflow/network/Link", "lanes", "()I"⟩ : MethodName)) (z := (⟨"com/example/graded_flow/gradedflow/network/Link", "lanes", "()I"⟩ : MethodName)) hown (mvT hZ (hw _ (List.mem_of_getElem? (i := 104) rfl))) (mvT hZ (hw _ (List.mem_of_getElem? (i := 105) rfl))) (notFace_of_selects (args := #[]) (mvT hZ (hw _ (List.mem_of_getElem? (i := 107) rfl)))) (mvT hZ (hw _ (List.mem_of_getElem? (i := 107) rfl))) (mvT hZ (hw _ (List.mem_of_getElem? (i := 106) rfl))) (by decide) (backOf (W := 2) (rm10 l Z a0 hw [] lk (1 : Int32) h0 n0 Z0 F_lanes_lk) hZ (hw _ (List.mem_of_getElem? (i := 108) rfl)) (hw _ (List.mem_of_getElem? (i := 42) rfl)) (by decide) (by decide)) q39a q39c (g := (mkF m 53 #[.val (.ref a1), .val (.double FP.dconst0), .second, .val (.double ent), .second, .val (.double own_100), .second, .unset, .unset] [(.ref lk), (.double FP.dconst0)])) rfl (by rw [hml]; rfl) (Steps.refl _) (argsL := []) (rest := [(.double FP.dconst0)]) (lenOf pd_6 rfl) rfl (by show 2 * 0 + _ ≤ _; exact Nat.le_of_eq rfl) (hb hby d18_53) (fun _ _ => ⟨rfl, e37, (by decide : 0 + 0 ≤ _), (by decide : 0 + 0 ≤ _)⟩)
    dsimp only [Pt.U, Pt.locs, Pt.cells, Pt.slots] at X39 l39 y39 z39 st39 hQ39
    subst l39 y39 z39
    obtain ⟨rfl, Nq39, e39⟩ := hQ39
    have N40 := Fr.app N16 Nq39
    have J41 : ∀ t, Steps p.tables e below (T39.setTop (mkF m 56 #[.val (.ref a1), .val (.double FP.dconst0), .second, .val (.double ent), .second, .val (.double own_100), .second, .unset, .unset] [(.int (1 : Int32)), (.double FP.dconst0)])) t → Steps p.tables e below (s₁.setTop (entryFrame m #[(.ref a1), (.double FP.dconst0)] 9)) t := fun t k => J38 t (st39.trans k)
    have J42 : ∀ t, Steps p.tables e below (T39.setTop (mkF m 84 #[.val (.ref a1), .val (.double FP.dconst0), .second, .val (.double ent), .second, .val (.double own_100), .second, .val (.double (FP.dmul FP.dconst0 (FP.i2d (1 : Int32)))), .second] [(.double (FP.ddiv own_100 (4615288898129284301 : UInt64)))])) t → Steps p.tables e below (s₁.setTop (entryFrame m #[(.ref a1), (.double FP.dconst0)] 9)) t := fun t k => J41 t (by
        show Steps p.tables e below (T39.setTop (mkF m 56 #[.val (.ref a1), .val (.double FP.dconst0), .second, .val (.double ent), .second, .val (.double own_100), .second, .unset, .unset] [(.int (1 : Int32)), (.double FP.dconst0)])) _
        refine XS.i2dS X39.here hx rfl (hb hby d18_56) rfl rfl ?_
        show Steps p.tables e below (T39.setTop (mkF m 57 #[.val (.ref a1), .val (.double FP.dconst0), .second, .val (.double ent), .second, .val (.double own_100), .second, .unset, .unset] [(.double (FP.i2d (1 : Int32))), (.double FP.dconst0)])) _
        refine XS.dmulS X39.here hx rfl (hb hby d18_57) rfl (by unfold Jvm.Free.Fl.NoNaN64; decide +kernel) rfl ?_
        show Steps p.tables e below (T39.setTop (mkF m 58 #[.val (.ref a1), .val (.double FP.dconst0), .second, .val (.double ent), .second, .val (.double own_100), .second, .unset, .unset] [(.double (FP.dmul FP.dconst0 (FP.i2d (1 : Int32))))])) _
        refine XS.dstore X39.here hx rfl (hb hby d18_58) rfl (l' := #[.val (.ref a1), .val (.double FP.dconst0), .second, .val (.double ent), .second, .val (.double own_100), .second, .val (.double (FP.dmul FP.dconst0 (FP.i2d (1 : Int32)))), .second]) rfl ?_
        show Steps p.tables e below (T39.setTop (mkF m 60 #[.val (.ref a1), .val (.double FP.dconst0), .second, .val (.double ent), .second, .val (.double own_100), .second, .val (.double (FP.dmul FP.dconst0 (FP.i2d (1 : Int32)))), .second] [])) _
        refine XS.dload X39.here hx rfl (hb hby d18_60) rfl ?_
        show Steps p.tables e below (T39.setTop (mkF m 62 #[.val (.ref a1), .val (.double FP.dconst0), .second, .val (.double ent), .second, .val (.double own_100), .second, .val (.double (FP.dmul FP.dconst0 (FP.i2d (1 : Int32)))), .second] [(.double (FP.dmul FP.dconst0 (FP.i2d (1 : Int32))))])) _
        refine XS.dconst0 X39.here hx rfl (hb hby d18_62) rfl ?_
        show Steps p.tables e below (T39.setTop (mkF m 63 #[.val (.ref a1), .val (.double FP.dconst0), .second, .val (.double ent), .second, .val (.double own_100), .second, .val (.double (FP.dmul FP.dconst0 (FP.i2d (1 : Int32)))), .second] [(.double FP.dconst0), (.double (FP.dmul FP.dconst0 (FP.i2d (1 : Int32))))])) _
        refine XS.dcmpS X39.here hx rfl (hb hby d18_63) rfl rfl ?_
        show Steps p.tables e below (T39.setTop (mkF m 64 #[.val (.ref a1), .val (.double FP.dconst0), .second, .val (.double ent), .second, .val (.double own_100), .second, .val (.double (FP.dmul FP.dconst0 (FP.i2d (1 : Int32)))), .second] [(.int (cmpValue (FP.dcmp (FP.dmul FP.dconst0 (FP.i2d (1 : Int32))) FP.dconst0) .l))])) _
        refine XS.ifYes X39.here hx rfl (pc0 := 64) (pc' := 78) rfl (hb hby d18_64) rfl ((if0 _ _).trans (flt (by decide +kernel)).2.2.2) (by decide) (by decide) ?_
        show Steps p.tables e below (T39.setTop (mkF m 78 #[.val (.ref a1), .val (.double FP.dconst0), .second, .val (.double ent), .second, .val (.double own_100), .second, .val (.double (FP.dmul FP.dconst0 (FP.i2d (1 : Int32)))), .second] [])) _
        refine XS.dload X39.here hx rfl (hb hby d18_78) rfl ?_
        show Steps p.tables e below (T39.setTop (mkF m 80 #[.val (.ref a1), .val (.double FP.dconst0), .second, .val (.double ent), .second, .val (.double own_100), .second, .val (.double (FP.dmul FP.dconst0 (FP.i2d (1 : Int32)))), .second] [(.double own_100)])) _
        refine X39.ldc2DoubleC hx hown (mvT hZ (hw _ (List.mem_of_getElem? (i := 183) rfl))) (g := (mkF m 80 #[.val (.ref a1), .val (.double FP.dconst0), .second, .val (.double ent), .second, .val (.double own_100), .second, .val (.double (FP.dmul FP.dconst0 (FP.i2d (1 : Int32)))), .second] [(.double own_100)])) rfl (hb hby d18_80) _ ?_
        show Steps p.tables e below (T39.setTop (mkF m 83 #[.val (.ref a1), .val (.double FP.dconst0), .second, .val (.double ent), .second, .val (.double own_100), .second, .val (.double (FP.dmul FP.dconst0 (FP.i2d (1 : Int32)))), .second] [(.double (4615288898129284301 : UInt64)), (.double own_100)])) _
        refine XS.ddivS X39.here hx rfl (hb hby d18_83) rfl (own_n3 own_n100) rfl ?_
        exact k)
    obtain ⟨fs, hr, hrun, hended, hW, hsame⟩ := X39.leave (v := some (.double (FP.ddiv own_100 (4615288898129284301 : UInt64)))) (fun h => by rw [Bd.returns] at h; cases h)
    refine ⟨_, _, J42 _ ?_, hrun, hended, _, _, rfl, ?_, ⟨_, rfl⟩, hW, hsame.mono (by decide) (by decide)⟩
    · show Steps p.tables e below (T39.setTop (mkF m 84 #[.val (.ref a1), .val (.double FP.dconst0), .second, .val (.double ent), .second, .val (.double own_100), .second, .val (.double (FP.dmul FP.dconst0 (FP.i2d (1 : Int32)))), .second] [(.double (FP.ddiv own_100 (4615288898129284301 : UInt64)))])) _
      exact retD X39 hx Bd.returns (hb hby d18_84) hr
    · show Q18 Z a1 lk ent up rem rd h0 n0 _ T39.heap _
      rw [e39]
      exact ⟨(by rw [show own_sp ent up = own_100 from if_neg hu]), N40, rfl⟩
theorem d22_0 : decode prog_8_method_14_code 0 = .ok (.aload_n 0, 1) := by decide +kernel
theorem d22_1 : decode prog_8_method_14_code 1 = .ok (.aload_n 0, 1) := by decide +kernel
theorem d22_2 : decode prog_8_method_14_code 2 = .ok (.getfield 43, 3) := by decide +kernel
theorem d22_5 : decode prog_8_method_14_code 5 = .ok (.aload_n 0, 1) := by decide +kernel
theorem d22_6 : decode prog_8_method_14_code 6 = .ok (.getfield 58, 3) := by decide +kernel
theorem d22_9 : decode prog_8_method_14_code 9 = .ok (.dadd, 1) := by decide +kernel
theorem d22_10 : decode prog_8_method_14_code 10 = .ok (.aload_n 0, 1) := by decide +kernel
theorem d22_11 : decode prog_8_method_14_code 11 = .ok (.getfield 69, 3) := by decide +kernel
theorem d22_14 : decode prog_8_method_14_code 14 = .ok (.i2d, 1) := by decide +kernel
theorem d22_15 : decode prog_8_method_14_code 15 = .ok (.dsub, 1) := by decide +kernel
theorem d22_16 : decode prog_8_method_14_code 16 = .ok (.putfield 43, 3) := by decide +kernel
theorem d22_19 : decode prog_8_method_14_code 19 = .ok (.return_, 1) := by decide +kernel
theorem pn_22 : plainName "com/example/graded_flow/gradedflow/microscopic/Entry" = true := by first | (simp [plainName, overriddenIn]; done) | decide +kernel
theorem ef_22_x (m : MethodId) (x0 : Addr) : entryFrame m #[(.ref x0)] 1 = mkF m 0 #[.val (.ref x0)] [] := by first | (simp [entryFrame, mkF, argsToLocals, Value.category]; done) | rfl
def Q22 (Z : State) (a1 : Addr) (lk : Addr) (ent : UInt64) (up : UInt64) (rem : UInt64) (h0 : Heap) (n0 : Nat) (v : Option Value) (h : Heap) (L : List Loc) : Prop := v = none ∧ Fr n0 L ∧ Keep h0 h [a1] ∧ (Exa Z h a1 "com/example/graded_flow/gradedflow/microscopic/Entry") ∧ (Fld Z h a1 "com/example/graded_flow/gradedflow/microscopic/Entry" "remainder" "D" (.double (FP.dsub (FP.dadd rem ent) (FP.i2d (0 : Int32)))))
set_option maxRecDepth 65536 in
set_option maxHeartbeats 40000000 in
theorem rm22 (l : Launch) (Z : State) (a0 : Array Value) (hw : ∀ d ∈ tables_1, d.before a0 Z = true) (ws : List Jvm.Cond) (a1 : Addr) (lk : Addr) (ent : UInt64) (up : UInt64) (rem : UInt64) (h0 : Heap) (n0 : Nat) (Z0 : n0 ≤ h0.size) (E_a1 : Exa Z h0 a1 "com/example/graded_flow/gradedflow/microscopic/Entry") (g_a1 : n0 ≤ a1) (h1 : Jvm.Free.Fl.NoNaN64 (FP.dadd rem ent)) (h2 : Jvm.Free.Fl.NoNaN64 (FP.dsub (FP.dadd rem ent) (FP.i2d (0 : Int32)))) (F_link_a1 : Fld Z h0 a1 "com/example/graded_flow/gradedflow/microscopic/Entry" "link" "Lcom/example/graded_flow/gradedflow/network/Link;" (.ref lk)) (F_macroStep_a1 : Fld Z h0 a1 "com/example/graded_flow/gradedflow/microscopic/Entry" "macroStep" "D" (.double own_3600)) (F_entering_a1 : Fld Z h0 a1 "com/example/graded_flow/gradedflow/microscopic/Entry" "entering" "D" (.double ent)) (F_upstreamDensity_a1 : Fld Z h0 a1 "com/example/graded_flow/gradedflow/microscopic/Entry" "upstreamDensity" "D" (.double up)) (F_remainder_a1 : Fld Z h0 a1 "com/example/graded_flow/gradedflow/microscopic/Entry" "remainder" "D" (.double rem)) (F_created_a1 : Fld Z h0 a1 "com/example/graded_flow/gradedflow/microscopic/Entry" "created" "I" (.int (0 : Int32))) :
    MetFree l (⟨"com/example/graded_flow/gradedflow/microscopic/Entry", "endStep", "()V"⟩ : MethodName) (head1 (Jvm.Cond.code (⟨"com/example/graded_flow/gradedflow/microscopic/Entry", "endStep", "()V"⟩ : MethodName) prog_8_method_14_code 1 none :: ws) ({ frames := 0, cells := 0, slots := 0, locals := 0 } : Room)) (fun a U => a = #[(.ref a1)] ∧ Z.Warmed39 U.vm ∧ U.heap = h0) (fun _ _ _ _ _ => True) (fun _ U o U' => ∃ v L, o = .returned v ∧ Q22 Z a1 lk ent up rem h0 n0 v U'.heap L ∧ FrameEnd U o U' L ({ frames := 0, cells := 0, slots := 0, locals := 0 } : Room).cells ({ frames := 0, cells := 0, slots := 0, locals := 0 } : Room).slots) := by
  refine MetFree.of_bodySF (plainFor_of_name pn_22) hisR ?_
  intro p e s m args below meth c s₁ Bd hml0 hP hK
  obtain ⟨rfl, hZ, hh⟩ := hP
  have hx := Bd.exec
  have hby := Bd.bytes
  have hml : c.maxLocals = 1 := hml0
  have hown : s.vm.findClass "com/example/graded_flow/gradedflow/microscopic/Entry" = some m.cls := findClass_of_methodNamed Bd.named
  have hnm := (name_of_methodNamed Bd.named Bd.method).1
  have X0 : Stand p l e ({ frames := 0, cells := 0, slots := 0, locals := 0 } : Room) s m #[(.ref a1)] below meth c s₁ [] 0 0 := Stand.of_body Bd
  have e0 : s₁.heap = h0 := by rw [← hh, Bd.state]; rfl
  have N0 := Fr.nil n0
  have pre0 : ∀ t, Steps p.tables e below (s₁.setTop (mkF m 0 #[.val (.ref a1)] [])) t → Steps p.tables e below (s₁.setTop (entryFrame m #[(.ref a1)] 1)) t := fun t k => castTop (ef_22_x m a1) k
  have J1 : ∀ t, Steps p.tables e below (s₁.setTop (mkF m 2 #[.val (.ref a1)] [(.ref a1), (.ref a1)])) t → Steps p.tables e below (s₁.setTop (entryFrame m #[(.ref a1)] 1)) t := fun t k => pre0 t (by
      show Steps p.tables e below (s₁.setTop (mkF m 0 #[.val (.ref a1)] [])) _
      refine XS.aloadN X0.here hx rfl (hb hby d22_0) rfl rfl ?_
      show Steps p.tables e below (s₁.setTop (mkF m 1 #[.val (.ref a1)] [(.ref a1)])) _
      refine XS.aloadN X0.here hx rfl (hb hby d22_1) rfl rfl ?_
      exact k)
  obtain ⟨T2, X2, e2, st2⟩ := getF X0 hx hZ hown (host := "") (Or.inl (hw _ (List.mem_of_getElem? (i := 190) rfl))) Via.refl e0 F_remainder_a1 (g := (mkF m 2 #[.val (.ref a1)] [(.ref a1), (.ref a1)])) rfl rfl (hb hby d22_2)
  have J3 : ∀ t, Steps p.tables e below (T2.setTop (mkF m 5 #[.val (.ref a1)] [(.double rem), (.ref a1)])) t → Steps p.tables e below (s₁.setTop (entryFrame m #[(.ref a1)] 1)) t := fun t k => J1 t (st2 t k)
  have J4 : ∀ t, Steps p.tables e below (T2.setTop (mkF m 6 #[.val (.ref a1)] [(.ref a1), (.double rem), (.ref a1)])) t → Steps p.tables e below (s₁.setTop (entryFrame m #[(.ref a1)] 1)) t := fun t k => J3 t (by
      show Steps p.tables e below (T2.setTop (mkF m 5 #[.val (.ref a1)] [(.double rem), (.ref a1)])) _
      refine XS.aloadN X2.here hx rfl (hb hby d22_5) rfl rfl ?_
      exact k)
  obtain ⟨T5, X5, e5, st5⟩ := getF X2 hx hZ hown (host := "") (Or.inl (hw _ (List.mem_of_getElem? (i := 160) rfl))) Via.refl e2 F_entering_a1 (g := (mkF m 6 #[.val (.ref a1)] [(.ref a1), (.double rem), (.ref a1)])) rfl rfl (hb hby d22_6)
  have J6 : ∀ t, Steps p.tables e below (T5.setTop (mkF m 9 #[.val (.ref a1)] [(.double ent), (.double rem), (.ref a1)])) t → Steps p.tables e below (s₁.setTop (entryFrame m #[(.ref a1)] 1)) t := fun t k => J4 t (st5 t k)
  have J7 : ∀ t, Steps p.tables e below (T5.setTop (mkF m 11 #[.val (.ref a1)] [(.ref a1), (.double (FP.dadd rem ent)), (.ref a1)])) t → Steps p.tables e below (s₁.setTop (entryFrame m #[(.ref a1)] 1)) t := fun t k => J6 t (by
      show Steps p.tables e below (T5.setTop (mkF m 9 #[.val (.ref a1)] [(.double ent), (.double rem), (.ref a1)])) _
      refine XS.daddS X5.here hx rfl (hb hby d22_9) rfl h1 rfl ?_
      show Steps p.tables e below (T5.setTop (mkF m 10 #[.val (.ref a1)] [(.double (FP.dadd rem ent)), (.ref a1)])) _
      refine XS.aloadN X5.here hx rfl (hb hby d22_10) rfl rfl ?_
      exact k)
  obtain ⟨T8, X8, e8, st8⟩ := getF X5 hx hZ hown (host := "") (Or.inl (hw _ (List.mem_of_getElem? (i := 192) rfl))) Via.refl e5 F_created_a1 (g := (mkF m 11 #[.val (.ref a1)] [(.ref a1), (.double (FP.dadd rem ent)), (.ref a1)])) rfl rfl (hb hby d22_11)
  have J9 : ∀ t, Steps p.tables e below (T8.setTop (mkF m 14 #[.val (.ref a1)] [(.int (0 : Int32)), (.double (FP.dadd rem ent)), (.ref a1)])) t → Steps p.tables e below (s₁.setTop (entryFrame m #[(.ref a1)] 1)) t := fun t k => J7 t (st8 t k)
  have J10 : ∀ t, Steps p.tables e below (T8.setTop (mkF m 16 #[.val (.ref a1)] [(.double (FP.dsub (FP.dadd rem ent) (FP.i2d (0 : Int32)))), (.ref a1)])) t → Steps p.tables e below (s₁.setTop (entryFrame m #[(.ref a1)] 1)) t := fun t k => J9 t (by
      show Steps p.tables e below (T8.setTop (mkF m 14 #[.val (.ref a1)] [(.int (0 : Int32)), (.double (FP.dadd rem ent)), (.ref a1)])) _
      refine XS.i2dS X8.here hx rfl (hb hby d22_14) rfl rfl ?_
      show Steps p.tables e below (T8.setTop (mkF m 15 #[.val (.ref a1)] [(.double (FP.i2d (0 : Int32))), (.double (FP.dadd rem ent)), (.ref a1)])) _
      refine XS.dsubS X8.here hx rfl (hb hby d22_15) rfl h2 rfl ?_
      exact k)
  obtain ⟨T11, h11, X11, e11, W11, st11⟩ := putF X8 hx hZ hown (host := "") (Or.inl (hw _ (List.mem_of_getElem? (i := 190) rfl))) Via.refl e8 F_remainder_a1 E_a1 (Or.inl (hw _ (List.mem_of_getElem? (i := 191) rfl))) (hw _ (List.mem_of_getElem? (i := 67) rfl)) (ty := .double) (by decide) rfl rfl (g := (mkF m 16 #[.val (.ref a1)] [(.double (FP.dsub (FP.dadd rem ent) (FP.i2d (0 : Int32)))), (.ref a1)])) rfl rfl (hb hby d22_16)
  have J12 : ∀ t, Steps p.tables e below (T11.setTop (mkF m 19 #[.val (.ref a1)] [])) t → Steps p.tables e below (s₁.setTop (entryFrame m #[(.ref a1)] 1)) t := fun t k => J10 t (st11 t k)
  have Z13 : n0 ≤ h11.size := Nat.le_trans Z0 (Keep.of_wr W11).1
  have KK14 : Keep h0 h11 [a1] := (Keep.refl h0 [a1]).wr W11 (Or.inl (List.mem_of_getElem? (i := 0) rfl))
  have N15 := Fr.snoc X11 N0 g_a1
  have Fw11 := F_remainder_a1.same W11
  obtain ⟨fs, hr, hrun, hended, hW, hsame⟩ := X11.leave (v := none) (fun _ => rfl)
  have f16 := E_a1.wr W11
  refine ⟨_, _, J12 _ ?_, hrun, hended, _, _, rfl, ?_, ⟨_, rfl⟩, hW, hsame.mono (by decide) (by decide)⟩
  · show Steps p.tables e below (T11.setTop (mkF m 19 #[.val (.ref a1)] [])) _
    exact X11.returnOut hx Bd.returns (hb hby d22_19) hr
  · show Q22 Z a1 lk ent up rem h0 n0 _ T11.heap _
    rw [e11]
    exact ⟨rfl, N15, KK14, f16, Fw11⟩
theorem d23_0 : decode prog_8_method_3_code 0 = .ok (.aload_n 0, 1) := by decide +kernel
theorem d23_1 : decode prog_8_method_3_code 1 = .ok (.getfield 43, 3) := by decide +kernel
theorem d23_4 : decode prog_8_method_3_code 4 = .ok (.dreturn, 1) := by decide +kernel
theorem pn_23 : plainName "com/example/graded_flow/gradedflow/microscopic/Entry" = true := by first | (simp [plainName, overriddenIn]; done) | decide +kernel
theorem ef_23_x (m : MethodId) (x0 : Addr) : entryFrame m #[(.ref x0)] 1 = mkF m 0 #[.val (.ref x0)] [] := by first | (simp [entryFrame, mkF, argsToLocals, Value.category]; done) | rfl
def Q23 (Z : State) (a1 : Addr) (d : UInt64) (h0 : Heap) (n0 : Nat) (v : Option Value) (h : Heap) (L : List Loc) : Prop := v = some (.double d) ∧ Fr n0 L ∧ h = h0
set_option maxRecDepth 65536 in
set_option maxHeartbeats 40000000 in
theorem rm23 (l : Launch) (Z : State) (a0 : Array Value) (hw : ∀ d ∈ tables_1, d.before a0 Z = true) (ws : List Jvm.Cond) (a1 : Addr) (d : UInt64) (h0 : Heap) (n0 : Nat) (Z0 : n0 ≤ h0.size) (F_remainder_a1 : Fld Z h0 a1 "com/example/graded_flow/gradedflow/microscopic/Entry" "remainder" "D" (.double d)) :
    MetFree l (⟨"com/example/graded_flow/gradedflow/microscopic/Entry", "remainder", "()D"⟩ : MethodName) (head1 (Jvm.Cond.code (⟨"com/example/graded_flow/gradedflow/microscopic/Entry", "remainder", "()D"⟩ : MethodName) prog_8_method_3_code 1 (some .double) :: ws) ({ frames := 0, cells := 0, slots := 0, locals := 0 } : Room)) (fun a U => a = #[(.ref a1)] ∧ Z.Warmed39 U.vm ∧ U.heap = h0) (fun _ _ _ _ _ => True) (fun _ U o U' => ∃ v L, o = .returned v ∧ Q23 Z a1 d h0 n0 v U'.heap L ∧ FrameEnd U o U' L ({ frames := 0, cells := 0, slots := 0, locals := 0 } : Room).cells ({ frames := 0, cells := 0, slots := 0, locals := 0 } : Room).slots) := by
  refine MetFree.of_bodySF (plainFor_of_name pn_23) hisR ?_
  intro p e s m args below meth c s₁ Bd hml0 hP hK
  obtain ⟨rfl, hZ, hh⟩ := hP
  have hx := Bd.exec
  have hby := Bd.bytes
  have hml : c.maxLocals = 1 := hml0
  have hown : s.vm.findClass "com/example/graded_flow/gradedflow/microscopic/Entry" = some m.cls := findClass_of_methodNamed Bd.named
  have hnm := (name_of_methodNamed Bd.named Bd.method).1
  have X0 : Stand p l e ({ frames := 0, cells := 0, slots := 0, locals := 0 } : Room) s m #[(.ref a1)] below meth c s₁ [] 0 0 := Stand.of_body Bd
  have e0 : s₁.heap = h0 := by rw [← hh, Bd.state]; rfl
  have N0 := Fr.nil n0
  have pre0 : ∀ t, Steps p.tables e below (s₁.setTop (mkF m 0 #[.val (.ref a1)] [])) t → Steps p.tables e below (s₁.setTop (entryFrame m #[(.ref a1)] 1)) t := fun t k => castTop (ef_23_x m a1) k
  have J1 : ∀ t, Steps p.tables e below (s₁.setTop (mkF m 1 #[.val (.ref a1)] [(.ref a1)])) t → Steps p.tables e below (s₁.setTop (entryFrame m #[(.ref a1)] 1)) t := fun t k => pre0 t (by
      show Steps p.tables e below (s₁.setTop (mkF m 0 #[.val (.ref a1)] [])) _
      refine XS.aloadN X0.here hx rfl (hb hby d23_0) rfl rfl ?_
      exact k)
  obtain ⟨T2, X2, e2, st2⟩ := getF X0 hx hZ hown (host := "") (Or.inl (hw _ (List.mem_of_getElem? (i := 190) rfl))) Via.refl e0 F_remainder_a1 (g := (mkF m 1 #[.val (.ref a1)] [(.ref a1)])) rfl rfl (hb hby d23_1)
  have J3 : ∀ t, Steps p.tables e below (T2.setTop (mkF m 4 #[.val (.ref a1)] [(.double d)])) t → Steps p.tables e below (s₁.setTop (entryFrame m #[(.ref a1)] 1)) t := fun t k => J1 t (st2 t k)
  obtain ⟨fs, hr, hrun, hended, hW, hsame⟩ := X2.leave (v := some (.double d)) (fun h => by rw [Bd.returns] at h; cases h)
  refine ⟨_, _, J3 _ ?_, hrun, hended, _, _, rfl, ?_, ⟨_, rfl⟩, hW, hsame.mono (by decide) (by decide)⟩
  · show Steps p.tables e below (T2.setTop (mkF m 4 #[.val (.ref a1)] [(.double d)])) _
    exact retD X2 hx Bd.returns (hb hby d23_4) hr
  · show Q23 Z a1 d h0 n0 _ T2.heap _
    rw [e2]
    exact ⟨rfl, N0, rfl⟩
def own_Em (Z : State) : Prop := ∃ (de : Addr) (dcl : Cell), Sta Z Z.heap "java/util/ArrayList" "DEFAULTCAPACITY_EMPTY_ELEMENTDATA" "[Ljava/lang/Object;" (.ref de) ∧ Arr Z Z.heap de dcl (.object "java/lang/Object") ∧ dcl.slots.size = 0
theorem pd_11 : parseMethodDescriptor "(DDD)V" = some ⟨[.double, .double, .double], none⟩ := by decide +kernel
theorem pd_12 : parseMethodDescriptor "(Ljava/lang/String;Ljava/lang/String;Ljava/lang/String;DILcom/example/graded_flow/gradedflow/network/TriangularDiagram;Lcom/example/graded_flow/gradedflow/network/LinkModel;)V" = some ⟨[(.object "java/lang/String"), (.object "java/lang/String"), (.object "java/lang/String"), .double, .int, (.object "com/example/graded_flow/gradedflow/network/TriangularDiagram"), (.object "com/example/graded_flow/gradedflow/network/LinkModel")], none⟩ := by decide +kernel
theorem pd_13 : parseMethodDescriptor "(Lcom/example/graded_flow/gradedflow/network/Link;D)V" = some ⟨[(.object "com/example/graded_flow/gradedflow/network/Link"), .double], none⟩ := by decide +kernel
theorem pd_14 : parseMethodDescriptor "(DD)V" = some ⟨[.double, .double], none⟩ := by decide +kernel
theorem pd_15 : parseMethodDescriptor "(D)D" = some ⟨[.double], some .double⟩ := by decide +kernel
theorem pn_0 : plainName "com/example/graded_flow/gradedflow/microscopic/EntryTakeInPinLaw" = true := by first | (simp [plainName, overriddenIn]; done) | decide +kernel
theorem ef_0_xxxxxx (m : MethodId) (x0 : Int32) (x1 : Int32) (x2 : Int32) (x3 : Int32) (x4 : Int32) (x5 : Int32) : entryFrame m #[(.int x0), (.int x1), (.int x2), (.int x3), (.int x4), (.int x5)] maxLocals = mkF m 0 #[.val (.int x0), .val (.int x1), .val (.int x2), .val (.int x3), .val (.int x4), .val (.int x5), .unset, .unset, .unset, .unset, .unset, .unset, .unset, .unset, .unset, .unset, .unset] [] := by first | (simp [entryFrame, mkF, argsToLocals, Value.category, maxLocals]; done) | rfl
def Q0 (Z : State) (c1 : Int32) (c2 : Int32) (c3 : Int32) (d1 : Int32) (d2 : Int32) (d3 : Int32) (h0 : Heap) (n0 : Nat) (v : Option Value) (h : Heap) (L : List Loc) : Prop := v = some (.int (1 : Int32)) ∧ Fr n0 L
set_option maxRecDepth 65536 in
set_option maxHeartbeats 40000000 in
theorem rm0 (l : Launch) (Z : State) (a0 : Array Value) (hw : ∀ d ∈ tables_1, d.before a0 Z = true) (ws : List Jvm.Cond) (c1 : Int32) (c2 : Int32) (c3 : Int32) (d1 : Int32) (d2 : Int32) (d3 : Int32) (h0 : Heap) (n0 : Nat) (Z0 : n0 ≤ h0.size) (O : Old Z n0 h0) (B : own_Em Z) :
    MetFree l x (head1 (Jvm.Cond.code x code maxLocals ret :: ws) room_1) (fun a U => a = #[(.int c1), (.int c2), (.int c3), (.int d1), (.int d2), (.int d3)] ∧ Z.Warmed39 U.vm ∧ U.heap = h0) (fun _ _ _ _ _ => True) (fun _ U o U' => ∃ v L, o = .returned v ∧ Q0 Z c1 c2 c3 d1 d2 d3 h0 n0 v U'.heap L ∧ ReturnedEndW U o U' L room_1.cells room_1.slots) := by
  refine MetFree.of_bodySF (plainFor_of_name pn_0) hisR ?_
  intro p e s m args below meth c s₁ Bd hml0 hP hK
  obtain ⟨rfl, hZ, hh⟩ := hP
  have hx := Bd.exec
  have hby := Bd.bytes
  have hml : c.maxLocals = 17 := hml0
  have hown : s.vm.findClass "com/example/graded_flow/gradedflow/microscopic/EntryTakeInPinLaw" = some m.cls := findClass_of_methodNamed Bd.named
  have hnm := (name_of_methodNamed Bd.named Bd.method).1
  have own_wS : ∀ a ∈ Bundle.stringAtoms, a.before a0 Z = true := own_words hw
  have hSi : s.Since s.vm h0.size := (State.WarmedH.refl s).since _
  have kz : h0.size ≤ h0.size := Nat.le_refl _
  have hZ : Z.Warmed39 (s.setVm s.vm).vm := hZ
  have hown : (s.setVm s.vm).vm.findClass "com/example/graded_flow/gradedflow/microscopic/EntryTakeInPinLaw" = some m.cls := hown
  have X0 : Stand p l e room_1 (s.setVm s.vm) m #[(.int c1), (.int c2), (.int c3), (.int d1), (.int d2), (.int d3)] below meth c s₁ [] 0 0 := Stand.of_body Bd
  have e0 : s₁.heap = h0 := by rw [← hh, Bd.state]; rfl
  have N0 := Fr.nil n0
  have pre0 : ∀ t, Steps p.tables e below (s₁.setTop (mkF m 0 #[.val (.int c1), .val (.int c2), .val (.int c3), .val (.int d1), .val (.int d2), .val (.int d3), .unset, .unset, .unset, .unset, .unset, .unset, .unset, .unset, .unset, .unset, .unset] [])) t → Steps p.tables e below (s₁.setTop (entryFrame m #[(.int c1), (.int c2), (.int c3), (.int d1), (.int d2), (.int d3)] maxLocals)) t := fun t k => castTop (ef_0_xxxxxx m c1 c2 c3 d1 d2 d3) k
  obtain ⟨de, dcl, Zs, Ad, hd⟩ := B
  obtain ⟨T1, h1, X1, e1, E1, A1, D1, -, st1⟩ := newO X0 hx hZ hown (hw _ (List.mem_of_getElem? (i := 0) rfl)) (hw _ (List.mem_of_getElem? (i := 1) rfl)) (hw _ (List.mem_of_getElem? (i := 2) rfl)) e0 (g := (mkF m 0 #[.val (.int c1), .val (.int c2), .val (.int c3), .val (.int d1), .val (.int d2), .val (.int d3), .unset, .unset, .unset, .unset, .unset, .unset, .unset, .unset, .unset, .unset, .unset] [])) rfl (hb hby at_0) (by decide) (by decide)
  obtain ⟨b1, g1⟩ : ∃ z, z = h0.size := ⟨_, rfl⟩
  rw [← g1] at A1 D1 st1
  have J2 : ∀ t, Steps p.tables e below (T1.setTop (mkF m 3 #[.val (.int c1), .val (.int c2), .val (.int c3), .val (.int d1), .val (.int d2), .val (.int d3), .unset, .unset, .unset, .unset, .unset, .unset, .unset, .unset, .unset, .unset, .unset] [(.ref b1)])) t → Steps p.tables e below (s₁.setTop (entryFrame m #[(.int c1), (.int c2), (.int c3), (.int d1), (.int d2), (.int d3)] maxLocals)) t := fun t k => pre0 t (st1 t k)
  have ge3 : n0 ≤ b1 := Nat.le_trans Z0 (Nat.le_of_eq g1.symm)
  have Z4 : n0 ≤ h1.size := Nat.le_trans Z0 E1.1
  have kz := Nat.le_trans kz E1.1
  have F1_capacity : Fld Z h1 b1 "com/example/graded_flow/gradedflow/network/TriangularDiagram" "capacity" "D" (.double (0 : UInt64)) := D1 (Or.inr (hw _ (List.mem_of_getElem? (i := 35) rfl))) (ty := .double) (by decide)
  have F1_freeSpeed : Fld Z h1 b1 "com/example/graded_flow/gradedflow/network/TriangularDiagram" "freeSpeed" "D" (.double (0 : UInt64)) := D1 (Or.inr (hw _ (List.mem_of_getElem? (i := 37) rfl))) (ty := .double) (by decide)
  have F1_jamDensity : Fld Z h1 b1 "com/example/graded_flow/gradedflow/network/TriangularDiagram" "jamDensity" "D" (.double (0 : UInt64)) := D1 (Or.inr (hw _ (List.mem_of_getElem? (i := 39) rfl))) (ty := .double) (by decide)
  have J5 : ∀ t, Steps p.tables e below (T1.setTop (mkF m 13 #[.val (.int c1), .val (.int c2), .val (.int c3), .val (.int d1), .val (.int d2), .val (.int d3), .unset, .unset, .unset, .unset, .unset, .unset, .unset, .unset, .unset, .unset, .unset] [(.double (4639481672377565184 : UInt64)), (.double (4636737291354636288 : UInt64)), (.double (4655631299166339072 : UInt64)), (.ref b1), (.ref b1)])) t → Steps p.tables e below (s₁.setTop (entryFrame m #[(.int c1), (.int c2), (.int c3), (.int d1), (.int d2), (.int d3)] maxLocals)) t := fun t k => J2 t (by
      show Steps p.tables e below (T1.setTop (mkF m 3 #[.val (.int c1), .val (.int c2), .val (.int c3), .val (.int d1), .val (.int d2), .val (.int d3), .unset, .unset, .unset, .unset, .unset, .unset, .unset, .unset, .unset, .unset, .unset] [(.ref b1)])) _
      refine XS.dup X1.here hx rfl (hb hby at_3) rfl rfl ?_
      show Steps p.tables e below (T1.setTop (mkF m 4 #[.val (.int c1), .val (.int c2), .val (.int c3), .val (.int d1), .val (.int d2), .val (.int d3), .unset, .unset, .unset, .unset, .unset, .unset, .unset, .unset, .unset, .unset, .unset] [(.ref b1), (.ref b1)])) _
      refine X1.ldc2DoubleC hx hown (mvT hZ (hw _ (List.mem_of_getElem? (i := 3) rfl))) (g := (mkF m 4 #[.val (.int c1), .val (.int c2), .val (.int c3), .val (.int d1), .val (.int d2), .val (.int d3), .unset, .unset, .unset, .unset, .unset, .unset, .unset, .unset, .unset, .unset, .unset] [(.ref b1), (.ref b1)])) rfl (hb hby at_4) _ ?_
      show Steps p.tables e below (T1.setTop (mkF m 7 #[.val (.int c1), .val (.int c2), .val (.int c3), .val (.int d1), .val (.int d2), .val (.int d3), .unset, .unset, .unset, .unset, .unset, .unset, .unset, .unset, .unset, .unset, .unset] [(.double (4655631299166339072 : UInt64)), (.ref b1), (.ref b1)])) _
      refine X1.ldc2DoubleC hx hown (mvT hZ (hw _ (List.mem_of_getElem? (i := 4) rfl))) (g := (mkF m 7 #[.val (.int c1), .val (.int c2), .val (.int c3), .val (.int d1), .val (.int d2), .val (.int d3), .unset, .unset, .unset, .unset, .unset, .unset, .unset, .unset, .unset, .unset, .unset] [(.double (4655631299166339072 : UInt64)), (.ref b1), (.ref b1)])) rfl (hb hby at_7) _ ?_
      show Steps p.tables e below (T1.setTop (mkF m 10 #[.val (.int c1), .val (.int c2), .val (.int c3), .val (.int d1), .val (.int d2), .val (.int d3), .unset, .unset, .unset, .unset, .unset, .unset, .unset, .unset, .unset, .unset, .unset] [(.double (4636737291354636288 : UInt64)), (.double (4655631299166339072 : UInt64)), (.ref b1), (.ref b1)])) _
      refine X1.ldc2DoubleC hx hown (mvT hZ (hw _ (List.mem_of_getElem? (i := 5) rfl))) (g := (mkF m 10 #[.val (.int c1), .val (.int c2), .val (.int c3), .val (.int d1), .val (.int d2), .val (.int d3), .unset, .unset, .unset, .unset, .unset, .unset, .unset, .unset, .unset, .unset, .unset] [(.double (4636737291354636288 : UInt64)), (.double (4655631299166339072 : UInt64)), (.ref b1), (.ref b1)])) rfl (hb hby at_10) _ ?_
      exact k)
  obtain ⟨_, _, ⟨T6, L6, k6, n6⟩, -, X6, hS6, hG6, ⟨Lc6, hQ6, l6, y6, z6⟩, st6⟩ := X1.specialBackS hx (y := (⟨"com/example/graded_flow/gradedflow/network/TriangularDiagram", "<init>", "(DDD)V"⟩ : MethodName)) rfl hown (mvT hZ (hw _ (List.mem_of_getElem? (i := 6) rfl))) (mvT hZ (hw _ (List.mem_of_getElem? (i := 7) rfl))) (mvT hZ (hw _ (List.mem_of_getElem? (i := 8) rfl))) (by decide) (backOfS (W := 1) (rm1 l Z a0 hw [] b1 (.double (0 : UInt64)) (.double (0 : UInt64)) (.double (0 : UInt64)) h1 n0 Z4 A1 ge3 F1_capacity F1_freeSpeed F1_jamDensity) hZ (hw _ (List.mem_of_getElem? (i := 8) rfl)) (hw _ (List.mem_of_getElem? (i := 2) rfl)) (by decide) (by decide)) (g := (mkF m 13 #[.val (.int c1), .val (.int c2), .val (.int c3), .val (.int d1), .val (.int d2), .val (.int d3), .unset, .unset, .unset, .unset, .unset, .unset, .unset, .unset, .unset, .unset, .unset] [(.double (4639481672377565184 : UInt64)), (.double (4636737291354636288 : UInt64)), (.double (4655631299166339072 : UInt64)), (.ref b1), (.ref b1)])) rfl (by rw [hml]; rfl) (Steps.refl _) (a := b1) (argsL := [(.double (4655631299166339072 : UInt64)), (.double (4636737291354636288 : UInt64)), (.double (4639481672377565184 : UInt64))]) (rest := [(.ref b1)]) (lenOf pd_11 rfl) rfl (by show 2 * 0 + _ ≤ _; exact Nat.le_of_eq rfl) (hb hby at_13) (fun _ _ => ⟨rfl, e1, (by decide : 1 + 12 ≤ _), (by decide : 3 + 240 ≤ _)⟩)
  dsimp only [Pt.U, Pt.locs, Pt.cells, Pt.slots] at X6 l6 y6 z6 st6 hQ6 hS6 hG6
  subst l6 y6 z6
  obtain ⟨X6, hSi, hZ, hown⟩ := rebS hSi kz X6 hS6 (by rw [← e1]; exact hG6) hZ hown
  have kz : T6.heap.size ≤ T6.heap.size := Nat.le_refl _
  obtain ⟨rfl, Nq6, K6, p6_1, p6_2, p6_3, p6_4⟩ := hQ6
  have N7 := Fr.app N0 Nq6
  have J8 : ∀ t, Steps p.tables e below (T6.setTop (mkF m 16 #[.val (.int c1), .val (.int c2), .val (.int c3), .val (.int d1), .val (.int d2), .val (.int d3), .unset, .unset, .unset, .unset, .unset, .unset, .unset, .unset, .unset, .unset, .unset] [(.ref b1)])) t → Steps p.tables e below (s₁.setTop (entryFrame m #[(.int c1), (.int c2), (.int c3), (.int d1), (.int d2), (.int d3)] maxLocals)) t := fun t k => J5 t (st6.trans k)
  have Z9 : n0 ≤ T6.heap.size := Nat.le_trans Z4 K6.1
  have J10 : ∀ t, Steps p.tables e below (T6.setTop (mkF m 18 #[.val (.int c1), .val (.int c2), .val (.int c3), .val (.int d1), .val (.int d2), .val (.int d3), .val (.ref b1), .unset, .unset, .unset, .unset, .unset, .unset, .unset, .unset, .unset, .unset] [])) t → Steps p.tables e below (s₁.setTop (entryFrame m #[(.int c1), (.int c2), (.int c3), (.int d1), (.int d2), (.int d3)] maxLocals)) t := fun t k => J8 t (by
      show Steps p.tables e below (T6.setTop (mkF m 16 #[.val (.int c1), .val (.int c2), .val (.int c3), .val (.int d1), .val (.int d2), .val (.int d3), .unset, .unset, .unset, .unset, .unset, .unset, .unset, .unset, .unset, .unset, .unset] [(.ref b1)])) _
      refine XS.astore X6.here hx rfl (hb hby at_16) rfl rfl (l' := #[.val (.int c1), .val (.int c2), .val (.int c3), .val (.int d1), .val (.int d2), .val (.int d3), .val (.ref b1), .unset, .unset, .unset, .unset, .unset, .unset, .unset, .unset, .unset, .unset]) rfl ?_
      exact k)
  obtain ⟨T11, h11, X11, e11, E11, A11, D11, -, st11⟩ := newO X6 hx hZ hown (hw _ (List.mem_of_getElem? (i := 40) rfl)) (hw _ (List.mem_of_getElem? (i := 41) rfl)) (hw _ (List.mem_of_getElem? (i := 42) rfl)) rfl (g := (mkF m 18 #[.val (.int c1), .val (.int c2), .val (.int c3), .val (.int d1), .val (.int d2), .val (.int d3), .val (.ref b1), .unset, .unset, .unset, .unset, .unset, .unset, .unset, .unset, .unset, .unset] [])) rfl (hb hby at_18) (by decide) (by decide)
  obtain ⟨b11, g11⟩ : ∃ z, z = T6.heap.size := ⟨_, rfl⟩
  rw [← g11] at A11 D11 st11
  have J12 : ∀ t, Steps p.tables e below (T11.setTop (mkF m 21 #[.val (.int c1), .val (.int c2), .val (.int c3), .val (.int d1), .val (.int d2), .val (.int d3), .val (.ref b1), .unset, .unset, .unset, .unset, .unset, .unset, .unset, .unset, .unset, .unset] [(.ref b11)])) t → Steps p.tables e below (s₁.setTop (entryFrame m #[(.int c1), (.int c2), (.int c3), (.int d1), (.int d2), (.int d3)] maxLocals)) t := fun t k => J10 t (st11 t k)
  have ne13 : b1 ≠ b11 := Nat.ne_of_lt (Nat.lt_of_lt_of_le p6_1.lt (Nat.le_of_eq g11.symm))
  have ge14 : n0 ≤ b11 := Nat.le_trans Z9 (Nat.le_of_eq g11.symm)
  have Z15 : n0 ≤ h11.size := Nat.le_trans Z9 E11.1
  have kz := Nat.le_trans kz E11.1
  have F11_id : Fld Z h11 b11 "com/example/graded_flow/gradedflow/network/Link" "id" "Ljava/lang/String;" .null := D11 (Or.inr (hw _ (List.mem_of_getElem? (i := 53) rfl))) (ty := (.object "java/lang/String")) (by decide)
  have F11_from : Fld Z h11 b11 "com/example/graded_flow/gradedflow/network/Link" "from" "Ljava/lang/String;" .null := D11 (Or.inr (hw _ (List.mem_of_getElem? (i := 55) rfl))) (ty := (.object "java/lang/String")) (by decide)
  have F11_to : Fld Z h11 b11 "com/example/graded_flow/gradedflow/network/Link" "to" "Ljava/lang/String;" .null := D11 (Or.inr (hw _ (List.mem_of_getElem? (i := 57) rfl))) (ty := (.object "java/lang/String")) (by decide)
  have F11_length : Fld Z h11 b11 "com/example/graded_flow/gradedflow/network/Link" "length" "D" (.double (0 : UInt64)) := D11 (Or.inr (hw _ (List.mem_of_getElem? (i := 59) rfl))) (ty := .double) (by decide)
  have F11_lanes : Fld Z h11 b11 "com/example/graded_flow/gradedflow/network/Link" "lanes" "I" (.int (0 : Int32)) := D11 (Or.inr (hw _ (List.mem_of_getElem? (i := 61) rfl))) (ty := .int) (by decide)
  have F11_road : Fld Z h11 b11 "com/example/graded_flow/gradedflow/network/Link" "road" "Lcom/example/graded_flow/gradedflow/network/TriangularDiagram;" .null := D11 (Or.inr (hw _ (List.mem_of_getElem? (i := 63) rfl))) (ty := (.object "com/example/graded_flow/gradedflow/network/TriangularDiagram")) (by decide)
  have F11_model : Fld Z h11 b11 "com/example/graded_flow/gradedflow/network/Link" "model" "Lcom/example/graded_flow/gradedflow/network/LinkModel;" .null := D11 (Or.inr (hw _ (List.mem_of_getElem? (i := 65) rfl))) (ty := (.object "com/example/graded_flow/gradedflow/network/LinkModel")) (by decide)
  have J16 : ∀ t, Steps p.tables e below (T11.setTop (mkF m 22 #[.val (.int c1), .val (.int c2), .val (.int c3), .val (.int d1), .val (.int d2), .val (.int d3), .val (.ref b1), .unset, .unset, .unset, .unset, .unset, .unset, .unset, .unset, .unset, .unset] [(.ref b11), (.ref b11)])) t → Steps p.tables e below (s₁.setTop (entryFrame m #[(.int c1), (.int c2), (.int c3), (.int d1), (.int d2), (.int d3)] maxLocals)) t := fun t k => J12 t (by
      show Steps p.tables e below (T11.setTop (mkF m 21 #[.val (.int c1), .val (.int c2), .val (.int c3), .val (.int d1), .val (.int d2), .val (.int d3), .val (.ref b1), .unset, .unset, .unset, .unset, .unset, .unset, .unset, .unset, .unset, .unset] [(.ref b11)])) _
      refine XS.dup X11.here hx rfl (hb hby at_21) rfl rfl ?_
      exact k)
  have f17 := p6_1.ext E11
  obtain ⟨b18, T18, h18, k18, X18, e18, E18, hSi, kz, hZ, hown, st18⟩ := ldcS X11 hx hZ hown (hw _ (List.mem_of_getElem? (i := 43) rfl)) own_wS e11 hSi kz (g := (mkF m 22 #[.val (.int c1), .val (.int c2), .val (.int c3), .val (.int d1), .val (.int d2), .val (.int d3), .val (.ref b1), .unset, .unset, .unset, .unset, .unset, .unset, .unset, .unset, .unset, .unset] [(.ref b11), (.ref b11)])) rfl (hb hby at_22) (n := 4) (by decide) (by decide) (by decide) (by decide)
  have J19 : ∀ t, Steps p.tables e below (T18.setTop (mkF m 24 #[.val (.int c1), .val (.int c2), .val (.int c3), .val (.int d1), .val (.int d2), .val (.int d3), .val (.ref b1), .unset, .unset, .unset, .unset, .unset, .unset, .unset, .unset, .unset, .unset] [(.ref b18), (.ref b11), (.ref b11)])) t → Steps p.tables e below (s₁.setTop (entryFrame m #[(.int c1), (.int c2), (.int c3), (.int d1), (.int d2), (.int d3)] maxLocals)) t := fun t k => J16 t (st18 t k)
  have Z20 : n0 ≤ h18.size := Nat.le_trans Z15 E18.1
  have f21 := f17.ext E18
  have f22 := A11.ext E18
  obtain ⟨b23, T23, h23, k23, X23, e23, E23, hSi, kz, hZ, hown, st23⟩ := ldcS X18 hx hZ hown (hw _ (List.mem_of_getElem? (i := 44) rfl)) own_wS e18 hSi kz (g := (mkF m 24 #[.val (.int c1), .val (.int c2), .val (.int c3), .val (.int d1), .val (.int d2), .val (.int d3), .val (.ref b1), .unset, .unset, .unset, .unset, .unset, .unset, .unset, .unset, .unset, .unset] [(.ref b18), (.ref b11), (.ref b11)])) rfl (hb hby at_24) (n := 4) (by decide) (by decide) (by decide) (by decide)
  have J24 : ∀ t, Steps p.tables e below (T23.setTop (mkF m 26 #[.val (.int c1), .val (.int c2), .val (.int c3), .val (.int d1), .val (.int d2), .val (.int d3), .val (.ref b1), .unset, .unset, .unset, .unset, .unset, .unset, .unset, .unset, .unset, .unset] [(.ref b23), (.ref b18), (.ref b11), (.ref b11)])) t → Steps p.tables e below (s₁.setTop (entryFrame m #[(.int c1), (.int c2), (.int c3), (.int d1), (.int d2), (.int d3)] maxLocals)) t := fun t k => J19 t (st23 t k)
  have Z25 : n0 ≤ h23.size := Nat.le_trans Z20 E23.1
  have f26 := f21.ext E23
  have f27 := f22.ext E23
  obtain ⟨b28, T28, h28, k28, X28, e28, E28, hSi, kz, hZ, hown, st28⟩ := ldcS X23 hx hZ hown (hw _ (List.mem_of_getElem? (i := 45) rfl)) own_wS e23 hSi kz (g := (mkF m 26 #[.val (.int c1), .val (.int c2), .val (.int c3), .val (.int d1), .val (.int d2), .val (.int d3), .val (.ref b1), .unset, .unset, .unset, .unset, .unset, .unset, .unset, .unset, .unset, .unset] [(.ref b23), (.ref b18), (.ref b11), (.ref b11)])) rfl (hb hby at_26) (n := 4) (by decide) (by decide) (by decide) (by decide)
  have J29 : ∀ t, Steps p.tables e below (T28.setTop (mkF m 28 #[.val (.int c1), .val (.int c2), .val (.int c3), .val (.int d1), .val (.int d2), .val (.int d3), .val (.ref b1), .unset, .unset, .unset, .unset, .unset, .unset, .unset, .unset, .unset, .unset] [(.ref b28), (.ref b23), (.ref b18), (.ref b11), (.ref b11)])) t → Steps p.tables e below (s₁.setTop (entryFrame m #[(.int c1), (.int c2), (.int c3), (.int d1), (.int d2), (.int d3)] maxLocals)) t := fun t k => J24 t (st28 t k)
  have Z30 : n0 ≤ h28.size := Nat.le_trans Z25 E28.1
  have J31 : ∀ t, Steps p.tables e below (T28.setTop (mkF m 35 #[.val (.int c1), .val (.int c2), .val (.int c3), .val (.int d1), .val (.int d2), .val (.int d3), .val (.ref b1), .unset, .unset, .unset, .unset, .unset, .unset, .unset, .unset, .unset, .unset] [.null, (.ref b1), (.int (1 : Int32)), (.double (4652007308841189376 : UInt64)), (.ref b28), (.ref b23), (.ref b18), (.ref b11), (.ref b11)])) t → Steps p.tables e below (s₁.setTop (entryFrame m #[(.int c1), (.int c2), (.int c3), (.int d1), (.int d2), (.int d3)] maxLocals)) t := fun t k => J29 t (by
      show Steps p.tables e below (T28.setTop (mkF m 28 #[.val (.int c1), .val (.int c2), .val (.int c3), .val (.int d1), .val (.int d2), .val (.int d3), .val (.ref b1), .unset, .unset, .unset, .unset, .unset, .unset, .unset, .unset, .unset, .unset] [(.ref b28), (.ref b23), (.ref b18), (.ref b11), (.ref b11)])) _
      refine X28.ldc2DoubleC hx hown (mvT hZ (hw _ (List.mem_of_getElem? (i := 46) rfl))) (g := (mkF m 28 #[.val (.int c1), .val (.int c2), .val (.int c3), .val (.int d1), .val (.int d2), .val (.int d3), .val (.ref b1), .unset, .unset, .unset, .unset, .unset, .unset, .unset, .unset, .unset, .unset] [(.ref b28), (.ref b23), (.ref b18), (.ref b11), (.ref b11)])) rfl (hb hby at_28) _ ?_
      show Steps p.tables e below (T28.setTop (mkF m 31 #[.val (.int c1), .val (.int c2), .val (.int c3), .val (.int d1), .val (.int d2), .val (.int d3), .val (.ref b1), .unset, .unset, .unset, .unset, .unset, .unset, .unset, .unset, .unset, .unset] [(.double (4652007308841189376 : UInt64)), (.ref b28), (.ref b23), (.ref b18), (.ref b11), (.ref b11)])) _
      refine XS.iconst X28.here hx rfl (hb hby at_31) ?_
      show Steps p.tables e below (T28.setTop (mkF m 32 #[.val (.int c1), .val (.int c2), .val (.int c3), .val (.int d1), .val (.int d2), .val (.int d3), .val (.ref b1), .unset, .unset, .unset, .unset, .unset, .unset, .unset, .unset, .unset, .unset] [(.int (1 : Int32)), (.double (4652007308841189376 : UInt64)), (.ref b28), (.ref b23), (.ref b18), (.ref b11), (.ref b11)])) _
      refine XS.aload X28.here hx rfl (hb hby at_32) rfl rfl ?_
      show Steps p.tables e below (T28.setTop (mkF m 34 #[.val (.int c1), .val (.int c2), .val (.int c3), .val (.int d1), .val (.int d2), .val (.int d3), .val (.ref b1), .unset, .unset, .unset, .unset, .unset, .unset, .unset, .unset, .unset, .unset] [(.ref b1), (.int (1 : Int32)), (.double (4652007308841189376 : UInt64)), (.ref b28), (.ref b23), (.ref b18), (.ref b11), (.ref b11)])) _
      refine XS.aconstNull X28.here hx rfl (hb hby at_34) ?_
      exact k)
  have f32 := f27.ext E28
  have f33 := F11_id.ext E18
  have f34 := f33.ext E23
  have f35 := f34.ext E28
  have f36 := F11_from.ext E18
  have f37 := f36.ext E23
  have f38 := f37.ext E28
  have f39 := F11_to.ext E18
  have f40 := f39.ext E23
  have f41 := f40.ext E28
  have f42 := F11_length.ext E18
  have f43 := f42.ext E23
  have f44 := f43.ext E28
  have f45 := F11_lanes.ext E18
  have f46 := f45.ext E23
  have f47 := f46.ext E28
  have f48 := F11_road.ext E18
  have f49 := f48.ext E23
  have f50 := f49.ext E28
  have f51 := F11_model.ext E18
  have f52 := f51.ext E23
  have f53 := f52.ext E28
  obtain ⟨_, _, ⟨T54, L54, k54, n54⟩, -, X54, ⟨Lc54, hQ54, l54, y54, z54⟩, st54⟩ := X28.specialBack hx (y := (⟨"com/example/graded_flow/gradedflow/network/Link", "<init>", "(Ljava/lang/String;Ljava/lang/String;Ljava/lang/String;DILcom/example/graded_flow/gradedflow/network/TriangularDiagram;Lcom/example/graded_flow/gradedflow/network/LinkModel;)V"⟩ : MethodName)) rfl hown (mvT hZ (hw _ (List.mem_of_getElem? (i := 47) rfl))) (mvT hZ (hw _ (List.mem_of_getElem? (i := 48) rfl))) (mvT hZ (hw _ (List.mem_of_getElem? (i := 49) rfl))) (by decide) (backOf (W := 1) (rm5 l Z a0 hw [] b11 b18 b23 b28 b1 .null .null .null (.double (0 : UInt64)) (.int (0 : Int32)) .null .null h28 n0 Z30 f32 ge14 f35 f38 f41 f44 f47 f50 f53) hZ (hw _ (List.mem_of_getElem? (i := 49) rfl)) (hw _ (List.mem_of_getElem? (i := 42) rfl)) (by decide) (by decide)) (g := (mkF m 35 #[.val (.int c1), .val (.int c2), .val (.int c3), .val (.int d1), .val (.int d2), .val (.int d3), .val (.ref b1), .unset, .unset, .unset, .unset, .unset, .unset, .unset, .unset, .unset, .unset] [.null, (.ref b1), (.int (1 : Int32)), (.double (4652007308841189376 : UInt64)), (.ref b28), (.ref b23), (.ref b18), (.ref b11), (.ref b11)])) rfl (by rw [hml]; rfl) (Steps.refl _) (a := b11) (argsL := [(.ref b18), (.ref b23), (.ref b28), (.double (4652007308841189376 : UInt64)), (.int (1 : Int32)), (.ref b1), .null]) (rest := [(.ref b11)]) (lenOf pd_12 rfl) rfl (by show 2 * 0 + _ ≤ _; exact Nat.le_of_eq rfl) (hb hby at_35) (fun _ _ => ⟨rfl, e28, (by decide : 20 + 0 ≤ _), (by decide : 274 + 0 ≤ _)⟩)
  dsimp only [Pt.U, Pt.locs, Pt.cells, Pt.slots] at X54 l54 y54 z54 st54 hQ54
  subst l54 y54 z54
  obtain ⟨rfl, Nq54, K54, p54_1, p54_2, p54_3⟩ := hQ54
  have N55 := Fr.app N7 Nq54
  have J56 : ∀ t, Steps p.tables e below (T54.setTop (mkF m 38 #[.val (.int c1), .val (.int c2), .val (.int c3), .val (.int d1), .val (.int d2), .val (.int d3), .val (.ref b1), .unset, .unset, .unset, .unset, .unset, .unset, .unset, .unset, .unset, .unset] [(.ref b11)])) t → Steps p.tables e below (s₁.setTop (entryFrame m #[(.int c1), (.int c2), (.int c3), (.int d1), (.int d2), (.int d3)] maxLocals)) t := fun t k => J31 t (st54.trans k)
  have Z57 : n0 ≤ T54.heap.size := Nat.le_trans Z30 K54.1
  have kz := Nat.le_trans kz K54.1
  have J58 : ∀ t, Steps p.tables e below (T54.setTop (mkF m 40 #[.val (.int c1), .val (.int c2), .val (.int c3), .val (.int d1), .val (.int d2), .val (.int d3), .val (.ref b1), .val (.ref b11), .unset, .unset, .unset, .unset, .unset, .unset, .unset, .unset, .unset] [])) t → Steps p.tables e below (s₁.setTop (entryFrame m #[(.int c1), (.int c2), (.int c3), (.int d1), (.int d2), (.int d3)] maxLocals)) t := fun t k => J56 t (by
      show Steps p.tables e below (T54.setTop (mkF m 38 #[.val (.int c1), .val (.int c2), .val (.int c3), .val (.int d1), .val (.int d2), .val (.int d3), .val (.ref b1), .unset, .unset, .unset, .unset, .unset, .unset, .unset, .unset, .unset, .unset] [(.ref b11)])) _
      refine XS.astore X54.here hx rfl (hb hby at_38) rfl rfl (l' := #[.val (.int c1), .val (.int c2), .val (.int c3), .val (.int d1), .val (.int d2), .val (.int d3), .val (.ref b1), .val (.ref b11), .unset, .unset, .unset, .unset, .unset, .unset, .unset, .unset, .unset]) rfl ?_
      exact k)
  have f60 := f26.ext E28
  have f61 := f60.keep K54
  obtain ⟨T59, h59, X59, e59, E59, A59, D59, -, st59⟩ := newO X54 hx hZ hown (hw _ (List.mem_of_getElem? (i := 66) rfl)) (hw _ (List.mem_of_getElem? (i := 67) rfl)) (hw _ (List.mem_of_getElem? (i := 68) rfl)) rfl (g := (mkF m 40 #[.val (.int c1), .val (.int c2), .val (.int c3), .val (.int d1), .val (.int d2), .val (.int d3), .val (.ref b1), .val (.ref b11), .unset, .unset, .unset, .unset, .unset, .unset, .unset, .unset, .unset] [])) rfl (hb hby at_40) (by decide) (by decide)
  obtain ⟨b59, g59⟩ : ∃ z, z = T54.heap.size := ⟨_, rfl⟩
  rw [← g59] at A59 D59 st59
  have J62 : ∀ t, Steps p.tables e below (T59.setTop (mkF m 43 #[.val (.int c1), .val (.int c2), .val (.int c3), .val (.int d1), .val (.int d2), .val (.int d3), .val (.ref b1), .val (.ref b11), .unset, .unset, .unset, .unset, .unset, .unset, .unset, .unset, .unset] [(.ref b59)])) t → Steps p.tables e below (s₁.setTop (entryFrame m #[(.int c1), (.int c2), (.int c3), (.int d1), (.int d2), (.int d3)] maxLocals)) t := fun t k => J58 t (st59 t k)
  have ne63 : b1 ≠ b59 := Nat.ne_of_lt (Nat.lt_of_lt_of_le f61.lt (Nat.le_of_eq g59.symm))
  have ne64 : b11 ≠ b59 := Nat.ne_of_lt (Nat.lt_of_lt_of_le p54_1.lt (Nat.le_of_eq g59.symm))
  have ge65 : n0 ≤ b59 := Nat.le_trans Z57 (Nat.le_of_eq g59.symm)
  have Z66 : n0 ≤ h59.size := Nat.le_trans Z57 E59.1
  have kz := Nat.le_trans kz E59.1
  have F59_waiting : Fld Z h59 b59 "com/example/graded_flow/gradedflow/microscopic/Entry" "waiting" "Ljava/util/List;" .null := D59 (Or.inr (hw _ (List.mem_of_getElem? (i := 99) rfl))) (ty := (.object "java/util/List")) (by decide)
  have F59_link : Fld Z h59 b59 "com/example/graded_flow/gradedflow/microscopic/Entry" "link" "Lcom/example/graded_flow/gradedflow/network/Link;" .null := D59 (Or.inr (hw _ (List.mem_of_getElem? (i := 101) rfl))) (ty := (.object "com/example/graded_flow/gradedflow/network/Link")) (by decide)
  have F59_macroStep : Fld Z h59 b59 "com/example/graded_flow/gradedflow/microscopic/Entry" "macroStep" "D" (.double (0 : UInt64)) := D59 (Or.inr (hw _ (List.mem_of_getElem? (i := 103) rfl))) (ty := .double) (by decide)
  have F59_entering : Fld Z h59 b59 "com/example/graded_flow/gradedflow/microscopic/Entry" "entering" "D" (.double (0 : UInt64)) := D59 (Or.inl (hw _ (List.mem_of_getElem? (i := 161) rfl))) (ty := .double) (by decide)
  have F59_upstreamDensity : Fld Z h59 b59 "com/example/graded_flow/gradedflow/microscopic/Entry" "upstreamDensity" "D" (.double (0 : UInt64)) := D59 (Or.inl (hw _ (List.mem_of_getElem? (i := 163) rfl))) (ty := .double) (by decide)
  have F59_remainder : Fld Z h59 b59 "com/example/graded_flow/gradedflow/microscopic/Entry" "remainder" "D" (.double (0 : UInt64)) := D59 (Or.inl (hw _ (List.mem_of_getElem? (i := 191) rfl))) (ty := .double) (by decide)
  have F59_created : Fld Z h59 b59 "com/example/graded_flow/gradedflow/microscopic/Entry" "created" "I" (.int (0 : Int32)) := D59 (Or.inl (hw _ (List.mem_of_getElem? (i := 193) rfl))) (ty := .int) (by decide)
  have J67 : ∀ t, Steps p.tables e below (T59.setTop (mkF m 49 #[.val (.int c1), .val (.int c2), .val (.int c3), .val (.int d1), .val (.int d2), .val (.int d3), .val (.ref b1), .val (.ref b11), .unset, .unset, .unset, .unset, .unset, .unset, .unset, .unset, .unset] [(.double own_3600), (.ref b11), (.ref b59), (.ref b59)])) t → Steps p.tables e below (s₁.setTop (entryFrame m #[(.int c1), (.int c2), (.int c3), (.int d1), (.int d2), (.int d3)] maxLocals)) t := fun t k => J62 t (by
      show Steps p.tables e below (T59.setTop (mkF m 43 #[.val (.int c1), .val (.int c2), .val (.int c3), .val (.int d1), .val (.int d2), .val (.int d3), .val (.ref b1), .val (.ref b11), .unset, .unset, .unset, .unset, .unset, .unset, .unset, .unset, .unset] [(.ref b59)])) _
      refine XS.dup X59.here hx rfl (hb hby at_43) rfl rfl ?_
      show Steps p.tables e below (T59.setTop (mkF m 44 #[.val (.int c1), .val (.int c2), .val (.int c3), .val (.int d1), .val (.int d2), .val (.int d3), .val (.ref b1), .val (.ref b11), .unset, .unset, .unset, .unset, .unset, .unset, .unset, .unset, .unset] [(.ref b59), (.ref b59)])) _
      refine XS.aload X59.here hx rfl (hb hby at_44) rfl rfl ?_
      show Steps p.tables e below (T59.setTop (mkF m 46 #[.val (.int c1), .val (.int c2), .val (.int c3), .val (.int d1), .val (.int d2), .val (.int d3), .val (.ref b1), .val (.ref b11), .unset, .unset, .unset, .unset, .unset, .unset, .unset, .unset, .unset] [(.ref b11), (.ref b59), (.ref b59)])) _
      refine X59.ldc2DoubleC hx hown (mvT hZ (hw _ (List.mem_of_getElem? (i := 69) rfl))) (g := (mkF m 46 #[.val (.int c1), .val (.int c2), .val (.int c3), .val (.int d1), .val (.int d2), .val (.int d3), .val (.ref b1), .val (.ref b11), .unset, .unset, .unset, .unset, .unset, .unset, .unset, .unset, .unset] [(.ref b11), (.ref b59), (.ref b59)])) rfl (hb hby at_46) _ ?_
      exact k)
  have f68 := p54_1.ext E59
  have f69 := p54_2.ext E59
  have f70 := O.ext E1
  have f71 := f70.keep K6 (allS ge3 all0)
  have f72 := f71.ext E11
  have f73 := f72.ext E18
  have f74 := f73.ext E23
  have f75 := f74.ext E28
  have f76 := f75.keep K54 (allS ge14 all0)
  have f77 := f76.ext E59
  obtain ⟨_, _, ⟨T78, L78, k78, n78⟩, -, X78, ⟨Lc78, hQ78, l78, y78, z78⟩, st78⟩ := X59.specialBack hx (y := (⟨"com/example/graded_flow/gradedflow/microscopic/Entry", "<init>", "(Lcom/example/graded_flow/gradedflow/network/Link;D)V"⟩ : MethodName)) rfl hown (mvT hZ (hw _ (List.mem_of_getElem? (i := 70) rfl))) (mvT hZ (hw _ (List.mem_of_getElem? (i := 71) rfl))) (mvT hZ (hw _ (List.mem_of_getElem? (i := 72) rfl))) (by decide) (backOf (W := 1) (rm6 l Z a0 hw [] b59 b11 de dcl .null .null (.double (0 : UInt64)) h59 n0 Z66 A59 ge65 f68 f69 ne64 f77 Zs Ad hd F59_waiting F59_link F59_macroStep F59_entering F59_upstreamDensity F59_remainder F59_created) hZ (hw _ (List.mem_of_getElem? (i := 72) rfl)) (hw _ (List.mem_of_getElem? (i := 68) rfl)) (by decide) (by decide)) (g := (mkF m 49 #[.val (.int c1), .val (.int c2), .val (.int c3), .val (.int d1), .val (.int d2), .val (.int d3), .val (.ref b1), .val (.ref b11), .unset, .unset, .unset, .unset, .unset, .unset, .unset, .unset, .unset] [(.double own_3600), (.ref b11), (.ref b59), (.ref b59)])) rfl (by rw [hml]; rfl) (Steps.refl _) (a := b59) (argsL := [(.ref b11), (.double own_3600)]) (rest := [(.ref b59)]) (lenOf pd_13 rfl) rfl (by show 2 * 0 + _ ≤ _; exact Nat.le_of_eq rfl) (hb hby at_49) (fun _ _ => ⟨rfl, e59, (by decide : 21 + 4 ≤ _), (by decide : 282 + 33 ≤ _)⟩)
  dsimp only [Pt.U, Pt.locs, Pt.cells, Pt.slots] at X78 l78 y78 z78 st78 hQ78
  subst l78 y78 z78
  obtain ⟨rfl, Nq78, K78, p78_1, p78_2, p78_3, p78_4, p78_5, p78_6, p78_7⟩ := hQ78
  have N79 := Fr.app N55 Nq78
  have J80 : ∀ t, Steps p.tables e below (T78.setTop (mkF m 52 #[.val (.int c1), .val (.int c2), .val (.int c3), .val (.int d1), .val (.int d2), .val (.int d3), .val (.ref b1), .val (.ref b11), .unset, .unset, .unset, .unset, .unset, .unset, .unset, .unset, .unset] [(.ref b59)])) t → Steps p.tables e below (s₁.setTop (entryFrame m #[(.int c1), (.int c2), (.int c3), (.int d1), (.int d2), (.int d3)] maxLocals)) t := fun t k => J67 t (st78.trans k)
  have Z81 : n0 ≤ T78.heap.size := Nat.le_trans Z66 K78.1
  have kz := Nat.le_trans kz K78.1
  have J82 : ∀ t, Steps p.tables e below (T78.setTop (mkF m 60 #[.val (.int c1), .val (.int c2), .val (.int c3), .val (.int d1), .val (.int d2), .val (.int d3), .val (.ref b1), .val (.ref b11), .val (.ref b59), .unset, .unset, .unset, .unset, .unset, .unset, .unset, .unset] [(.double (FP.i2d d1)), (.double (FP.i2d c1)), (.ref b59)])) t → Steps p.tables e below (s₁.setTop (entryFrame m #[(.int c1), (.int c2), (.int c3), (.int d1), (.int d2), (.int d3)] maxLocals)) t := fun t k => J80 t (by
      show Steps p.tables e below (T78.setTop (mkF m 52 #[.val (.int c1), .val (.int c2), .val (.int c3), .val (.int d1), .val (.int d2), .val (.int d3), .val (.ref b1), .val (.ref b11), .unset, .unset, .unset, .unset, .unset, .unset, .unset, .unset, .unset] [(.ref b59)])) _
      refine XS.astore X78.here hx rfl (hb hby at_52) rfl rfl (l' := #[.val (.int c1), .val (.int c2), .val (.int c3), .val (.int d1), .val (.int d2), .val (.int d3), .val (.ref b1), .val (.ref b11), .val (.ref b59), .unset, .unset, .unset, .unset, .unset, .unset, .unset, .unset]) rfl ?_
      show Steps p.tables e below (T78.setTop (mkF m 54 #[.val (.int c1), .val (.int c2), .val (.int c3), .val (.int d1), .val (.int d2), .val (.int d3), .val (.ref b1), .val (.ref b11), .val (.ref b59), .unset, .unset, .unset, .unset, .unset, .unset, .unset, .unset] [])) _
      refine XS.aload X78.here hx rfl (hb hby at_54) rfl rfl ?_
      show Steps p.tables e below (T78.setTop (mkF m 56 #[.val (.int c1), .val (.int c2), .val (.int c3), .val (.int d1), .val (.int d2), .val (.int d3), .val (.ref b1), .val (.ref b11), .val (.ref b59), .unset, .unset, .unset, .unset, .unset, .unset, .unset, .unset] [(.ref b59)])) _
      refine XS.iloadN X78.here hx rfl (hb hby at_56) rfl ?_
      show Steps p.tables e below (T78.setTop (mkF m 57 #[.val (.int c1), .val (.int c2), .val (.int c3), .val (.int d1), .val (.int d2), .val (.int d3), .val (.ref b1), .val (.ref b11), .val (.ref b59), .unset, .unset, .unset, .unset, .unset, .unset, .unset, .unset] [(.int c1), (.ref b59)])) _
      refine XS.i2dS X78.here hx rfl (hb hby at_57) rfl rfl ?_
      show Steps p.tables e below (T78.setTop (mkF m 58 #[.val (.int c1), .val (.int c2), .val (.int c3), .val (.int d1), .val (.int d2), .val (.int d3), .val (.ref b1), .val (.ref b11), .val (.ref b59), .unset, .unset, .unset, .unset, .unset, .unset, .unset, .unset] [(.double (FP.i2d c1)), (.ref b59)])) _
      refine XS.iloadN X78.here hx rfl (hb hby at_58) rfl ?_
      show Steps p.tables e below (T78.setTop (mkF m 59 #[.val (.int c1), .val (.int c2), .val (.int c3), .val (.int d1), .val (.int d2), .val (.int d3), .val (.ref b1), .val (.ref b11), .val (.ref b59), .unset, .unset, .unset, .unset, .unset, .unset, .unset, .unset] [(.int d1), (.double (FP.i2d c1)), (.ref b59)])) _
      refine XS.i2dS X78.here hx rfl (hb hby at_59) rfl rfl ?_
      exact k)
  obtain ⟨cq83, kq83, q83a, q83b, q83c⟩ := isOf hZ rfl p78_1
  obtain ⟨_, _, ⟨T83, L83, k83, n83⟩, -, X83, ⟨Lc83, hQ83, l83, y83, z83⟩, st83⟩ := X78.virtualBack hx (y := (⟨"com/example/graded_flow/gradedflow/microscopic/Entry", "takeIn", "(DD)V"⟩ : MethodName)) (z := (⟨"com/example/graded_flow/gradedflow/microscopic/Entry", "takeIn", "(DD)V"⟩ : MethodName)) hown (mvT hZ (hw _ (List.mem_of_getElem? (i := 155) rfl))) (mvT hZ (hw _ (List.mem_of_getElem? (i := 156) rfl))) (notFace_of_selects (args := #[]) (mvT hZ (hw _ (List.mem_of_getElem? (i := 158) rfl)))) (mvT hZ (hw _ (List.mem_of_getElem? (i := 158) rfl))) (mvT hZ (hw _ (List.mem_of_getElem? (i := 157) rfl))) (by decide) (backOf (W := 0) (rm17 l Z a0 hw [] b59 b11 (0 : UInt64) (0 : UInt64) (0 : UInt64) (FP.i2d c1) (FP.i2d d1) T78.heap n0 Z81 p78_1 ge65 (by rw [own_0d]; exact own_ni c1) p78_2 p78_3 p78_4 p78_5 p78_6 p78_7) hZ (hw _ (List.mem_of_getElem? (i := 159) rfl)) (hw _ (List.mem_of_getElem? (i := 68) rfl)) (by decide) (by decide)) q83a q83c (g := (mkF m 60 #[.val (.int c1), .val (.int c2), .val (.int c3), .val (.int d1), .val (.int d2), .val (.int d3), .val (.ref b1), .val (.ref b11), .val (.ref b59), .unset, .unset, .unset, .unset, .unset, .unset, .unset, .unset] [(.double (FP.i2d d1)), (.double (FP.i2d c1)), (.ref b59)])) rfl (by rw [hml]; rfl) (Steps.refl _) (argsL := [(.double (FP.i2d c1)), (.double (FP.i2d d1))]) (rest := []) (lenOf pd_14 rfl) rfl (by show 2 * 0 + _ ≤ _; exact Nat.le_of_eq rfl) (hb hby at_60) (fun _ _ => ⟨rfl, rfl, (by decide : 25 + 0 ≤ _), (by decide : 315 + 0 ≤ _)⟩)
  dsimp only [Pt.U, Pt.locs, Pt.cells, Pt.slots] at X83 l83 y83 z83 st83 hQ83
  subst l83 y83 z83
  obtain ⟨rfl, Nq83, K83, p83_1, p83_2, p83_3, p83_4, p83_5, p83_6, p83_7⟩ := hQ83
  have N84 := Fr.app N79 Nq83
  have J85 : ∀ t, Steps p.tables e below (T83.setTop (mkF m 63 #[.val (.int c1), .val (.int c2), .val (.int c3), .val (.int d1), .val (.int d2), .val (.int d3), .val (.ref b1), .val (.ref b11), .val (.ref b59), .unset, .unset, .unset, .unset, .unset, .unset, .unset, .unset] [])) t → Steps p.tables e below (s₁.setTop (entryFrame m #[(.int c1), (.int c2), (.int c3), (.int d1), (.int d2), (.int d3)] maxLocals)) t := fun t k => J82 t (st83.trans k)
  have Z86 : n0 ≤ T83.heap.size := Nat.le_trans Z81 K83.1
  have kz := Nat.le_trans kz K83.1
  have f87 : Fld Z T83.heap b59 "com/example/graded_flow/gradedflow/microscopic/Entry" "entering" "D" (.double (FP.i2d c1)) := by rw [← own_0d c1]; exact p83_4
  have J88 : ∀ t, Steps p.tables e below (T83.setTop (mkF m 70 #[.val (.int c1), .val (.int c2), .val (.int c3), .val (.int d1), .val (.int d2), .val (.int d3), .val (.ref b1), .val (.ref b11), .val (.ref b59), .unset, .unset, .unset, .unset, .unset, .unset, .unset, .unset] [(.double (FP.i2d d2)), (.double (FP.i2d c2)), (.ref b59)])) t → Steps p.tables e below (s₁.setTop (entryFrame m #[(.int c1), (.int c2), (.int c3), (.int d1), (.int d2), (.int d3)] maxLocals)) t := fun t k => J85 t (by
      show Steps p.tables e below (T83.setTop (mkF m 63 #[.val (.int c1), .val (.int c2), .val (.int c3), .val (.int d1), .val (.int d2), .val (.int d3), .val (.ref b1), .val (.ref b11), .val (.ref b59), .unset, .unset, .unset, .unset, .unset, .unset, .unset, .unset] [])) _
      refine XS.aload X83.here hx rfl (hb hby at_63) rfl rfl ?_
      show Steps p.tables e below (T83.setTop (mkF m 65 #[.val (.int c1), .val (.int c2), .val (.int c3), .val (.int d1), .val (.int d2), .val (.int d3), .val (.ref b1), .val (.ref b11), .val (.ref b59), .unset, .unset, .unset, .unset, .unset, .unset, .unset, .unset] [(.ref b59)])) _
      refine XS.iloadN X83.here hx rfl (hb hby at_65) rfl ?_
      show Steps p.tables e below (T83.setTop (mkF m 66 #[.val (.int c1), .val (.int c2), .val (.int c3), .val (.int d1), .val (.int d2), .val (.int d3), .val (.ref b1), .val (.ref b11), .val (.ref b59), .unset, .unset, .unset, .unset, .unset, .unset, .unset, .unset] [(.int c2), (.ref b59)])) _
      refine XS.i2dS X83.here hx rfl (hb hby at_66) rfl rfl ?_
      show Steps p.tables e below (T83.setTop (mkF m 67 #[.val (.int c1), .val (.int c2), .val (.int c3), .val (.int d1), .val (.int d2), .val (.int d3), .val (.ref b1), .val (.ref b11), .val (.ref b59), .unset, .unset, .unset, .unset, .unset, .unset, .unset, .unset] [(.double (FP.i2d c2)), (.ref b59)])) _
      refine XS.iload X83.here hx rfl (hb hby at_67) rfl ?_
      show Steps p.tables e below (T83.setTop (mkF m 69 #[.val (.int c1), .val (.int c2), .val (.int c3), .val (.int d1), .val (.int d2), .val (.int d3), .val (.ref b1), .val (.ref b11), .val (.ref b59), .unset, .unset, .unset, .unset, .unset, .unset, .unset, .unset] [(.int d2), (.double (FP.i2d c2)), (.ref b59)])) _
      refine XS.i2dS X83.here hx rfl (hb hby at_69) rfl rfl ?_
      exact k)
  obtain ⟨cq89, kq89, q89a, q89b, q89c⟩ := isOf hZ rfl p83_1
  obtain ⟨_, _, ⟨T89, L89, k89, n89⟩, -, X89, ⟨Lc89, hQ89, l89, y89, z89⟩, st89⟩ := X83.virtualBack hx (y := (⟨"com/example/graded_flow/gradedflow/microscopic/Entry", "takeIn", "(DD)V"⟩ : MethodName)) (z := (⟨"com/example/graded_flow/gradedflow/microscopic/Entry", "takeIn", "(DD)V"⟩ : MethodName)) hown (mvT hZ (hw _ (List.mem_of_getElem? (i := 155) rfl))) (mvT hZ (hw _ (List.mem_of_getElem? (i := 156) rfl))) (notFace_of_selects (args := #[]) (mvT hZ (hw _ (List.mem_of_getElem? (i := 158) rfl)))) (mvT hZ (hw _ (List.mem_of_getElem? (i := 158) rfl))) (mvT hZ (hw _ (List.mem_of_getElem? (i := 157) rfl))) (by decide) (backOf (W := 0) (rm17 l Z a0 hw [] b59 b11 (FP.i2d c1) (if (0 : Int32) < cmpValue (FP.dcmp (FP.i2d d1) FP.dconst0) .l then (FP.i2d d1) else (0 : UInt64)) (0 : UInt64) (FP.i2d c2) (FP.i2d d2) T83.heap n0 Z86 p83_1 ge65 (own_na (own_ni c1) c2) p83_2 p83_3 f87 p83_5 p83_6 p83_7) hZ (hw _ (List.mem_of_getElem? (i := 159) rfl)) (hw _ (List.mem_of_getElem? (i := 68) rfl)) (by decide) (by decide)) q89a q89c (g := (mkF m 70 #[.val (.int c1), .val (.int c2), .val (.int c3), .val (.int d1), .val (.int d2), .val (.int d3), .val (.ref b1), .val (.ref b11), .val (.ref b59), .unset, .unset, .unset, .unset, .unset, .unset, .unset, .unset] [(.double (FP.i2d d2)), (.double (FP.i2d c2)), (.ref b59)])) rfl (by rw [hml]; rfl) (Steps.refl _) (argsL := [(.double (FP.i2d c2)), (.double (FP.i2d d2))]) (rest := []) (lenOf pd_14 rfl) rfl (by show 2 * 0 + _ ≤ _; exact Nat.le_of_eq rfl) (hb hby at_70) (fun _ _ => ⟨rfl, rfl, (by decide : 25 + 0 ≤ _), (by decide : 315 + 0 ≤ _)⟩)
  dsimp only [Pt.U, Pt.locs, Pt.cells, Pt.slots] at X89 l89 y89 z89 st89 hQ89
  subst l89 y89 z89
  obtain ⟨rfl, Nq89, K89, p89_1, p89_2, p89_3, p89_4, p89_5, p89_6, p89_7⟩ := hQ89
  have N90 := Fr.app N84 Nq89
  have J91 : ∀ t, Steps p.tables e below (T89.setTop (mkF m 73 #[.val (.int c1), .val (.int c2), .val (.int c3), .val (.int d1), .val (.int d2), .val (.int d3), .val (.ref b1), .val (.ref b11), .val (.ref b59), .unset, .unset, .unset, .unset, .unset, .unset, .unset, .unset] [])) t → Steps p.tables e below (s₁.setTop (entryFrame m #[(.int c1), (.int c2), (.int c3), (.int d1), (.int d2), (.int d3)] maxLocals)) t := fun t k => J88 t (st89.trans k)
  have Z92 : n0 ≤ T89.heap.size := Nat.le_trans Z86 K89.1
  have kz := Nat.le_trans kz K89.1
  have J93 : ∀ t, Steps p.tables e below (T89.setTop (mkF m 80 #[.val (.int c1), .val (.int c2), .val (.int c3), .val (.int d1), .val (.int d2), .val (.int d3), .val (.ref b1), .val (.ref b11), .val (.ref b59), .unset, .unset, .unset, .unset, .unset, .unset, .unset, .unset] [(.double (FP.i2d d3)), (.double (FP.i2d c3)), (.ref b59)])) t → Steps p.tables e below (s₁.setTop (entryFrame m #[(.int c1), (.int c2), (.int c3), (.int d1), (.int d2), (.int d3)] maxLocals)) t := fun t k => J91 t (by
      show Steps p.tables e below (T89.setTop (mkF m 73 #[.val (.int c1), .val (.int c2), .val (.int c3), .val (.int d1), .val (.int d2), .val (.int d3), .val (.ref b1), .val (.ref b11), .val (.ref b59), .unset, .unset, .unset, .unset, .unset, .unset, .unset, .unset] [])) _
      refine XS.aload X89.here hx rfl (hb hby at_73) rfl rfl ?_
      show Steps p.tables e below (T89.setTop (mkF m 75 #[.val (.int c1), .val (.int c2), .val (.int c3), .val (.int d1), .val (.int d2), .val (.int d3), .val (.ref b1), .val (.ref b11), .val (.ref b59), .unset, .unset, .unset, .unset, .unset, .unset, .unset, .unset] [(.ref b59)])) _
      refine XS.iloadN X89.here hx rfl (hb hby at_75) rfl ?_
      show Steps p.tables e below (T89.setTop (mkF m 76 #[.val (.int c1), .val (.int c2), .val (.int c3), .val (.int d1), .val (.int d2), .val (.int d3), .val (.ref b1), .val (.ref b11), .val (.ref b59), .unset, .unset, .unset, .unset, .unset, .unset, .unset, .unset] [(.int c3), (.ref b59)])) _
      refine XS.i2dS X89.here hx rfl (hb hby at_76) rfl rfl ?_
      show Steps p.tables e below (T89.setTop (mkF m 77 #[.val (.int c1), .val (.int c2), .val (.int c3), .val (.int d1), .val (.int d2), .val (.int d3), .val (.ref b1), .val (.ref b11), .val (.ref b59), .unset, .unset, .unset, .unset, .unset, .unset, .unset, .unset] [(.double (FP.i2d c3)), (.ref b59)])) _
      refine XS.iload X89.here hx rfl (hb hby at_77) rfl ?_
      show Steps p.tables e below (T89.setTop (mkF m 79 #[.val (.int c1), .val (.int c2), .val (.int c3), .val (.int d1), .val (.int d2), .val (.int d3), .val (.ref b1), .val (.ref b11), .val (.ref b59), .unset, .unset, .unset, .unset, .unset, .unset, .unset, .unset] [(.int d3), (.double (FP.i2d c3)), (.ref b59)])) _
      refine XS.i2dS X89.here hx rfl (hb hby at_79) rfl rfl ?_
      exact k)
  obtain ⟨cq94, kq94, q94a, q94b, q94c⟩ := isOf hZ rfl p89_1
  obtain ⟨_, _, ⟨T94, L94, k94, n94⟩, -, X94, ⟨Lc94, hQ94, l94, y94, z94⟩, st94⟩ := X89.virtualBack hx (y := (⟨"com/example/graded_flow/gradedflow/microscopic/Entry", "takeIn", "(DD)V"⟩ : MethodName)) (z := (⟨"com/example/graded_flow/gradedflow/microscopic/Entry", "takeIn", "(DD)V"⟩ : MethodName)) hown (mvT hZ (hw _ (List.mem_of_getElem? (i := 155) rfl))) (mvT hZ (hw _ (List.mem_of_getElem? (i := 156) rfl))) (notFace_of_selects (args := #[]) (mvT hZ (hw _ (List.mem_of_getElem? (i := 158) rfl)))) (mvT hZ (hw _ (List.mem_of_getElem? (i := 158) rfl))) (mvT hZ (hw _ (List.mem_of_getElem? (i := 157) rfl))) (by decide) (backOf (W := 0) (rm17 l Z a0 hw [] b59 b11 (FP.dadd (FP.i2d c1) (FP.i2d c2)) (if (0 : Int32) < cmpValue (FP.dcmp (FP.i2d d2) FP.dconst0) .l then (FP.i2d d2) else (if (0 : Int32) < cmpValue (FP.dcmp (FP.i2d d1) FP.dconst0) .l then (FP.i2d d1) else (0 : UInt64))) (0 : UInt64) (FP.i2d c3) (FP.i2d d3) T89.heap n0 Z92 p89_1 ge65 (own_na (own_na (own_ni c1) c2) c3) p89_2 p89_3 p89_4 p89_5 p89_6 p89_7) hZ (hw _ (List.mem_of_getElem? (i := 159) rfl)) (hw _ (List.mem_of_getElem? (i := 68) rfl)) (by decide) (by decide)) q94a q94c (g := (mkF m 80 #[.val (.int c1), .val (.int c2), .val (.int c3), .val (.int d1), .val (.int d2), .val (.int d3), .val (.ref b1), .val (.ref b11), .val (.ref b59), .unset, .unset, .unset, .unset, .unset, .unset, .unset, .unset] [(.double (FP.i2d d3)), (.double (FP.i2d c3)), (.ref b59)])) rfl (by rw [hml]; rfl) (Steps.refl _) (argsL := [(.double (FP.i2d c3)), (.double (FP.i2d d3))]) (rest := []) (lenOf pd_14 rfl) rfl (by show 2 * 0 + _ ≤ _; exact Nat.le_of_eq rfl) (hb hby at_80) (fun _ _ => ⟨rfl, rfl, (by decide : 25 + 0 ≤ _), (by decide : 315 + 0 ≤ _)⟩)
  dsimp only [Pt.U, Pt.locs, Pt.cells, Pt.slots] at X94 l94 y94 z94 st94 hQ94
  subst l94 y94 z94
  obtain ⟨rfl, Nq94, K94, p94_1, p94_2, p94_3, p94_4, p94_5, p94_6, p94_7⟩ := hQ94
  have N95 := Fr.app N90 Nq94
  have J96 : ∀ t, Steps p.tables e below (T94.setTop (mkF m 83 #[.val (.int c1), .val (.int c2), .val (.int c3), .val (.int d1), .val (.int d2), .val (.int d3), .val (.ref b1), .val (.ref b11), .val (.ref b59), .unset, .unset, .unset, .unset, .unset, .unset, .unset, .unset] [])) t → Steps p.tables e below (s₁.setTop (entryFrame m #[(.int c1), (.int c2), (.int c3), (.int d1), (.int d2), (.int d3)] maxLocals)) t := fun t k => J93 t (st94.trans k)
  have Z97 : n0 ≤ T94.heap.size := Nat.le_trans Z92 K94.1
  have kz := Nat.le_trans kz K94.1
  have J98 : ∀ t, Steps p.tables e below (T94.setTop (mkF m 101 #[.val (.int c1), .val (.int c2), .val (.int c3), .val (.int d1), .val (.int d2), .val (.int d3), .val (.ref b1), .val (.ref b11), .val (.ref b59), .val (.double (FP.dadd (FP.dadd (FP.i2d c1) (FP.i2d c2)) (FP.i2d c3))), .second, .unset, .unset, .unset, .unset, .unset, .unset] [])) t → Steps p.tables e below (s₁.setTop (entryFrame m #[(.int c1), (.int c2), (.int c3), (.int d1), (.int d2), (.int d3)] maxLocals)) t := fun t k => J96 t (by
      show Steps p.tables e below (T94.setTop (mkF m 83 #[.val (.int c1), .val (.int c2), .val (.int c3), .val (.int d1), .val (.int d2), .val (.int d3), .val (.ref b1), .val (.ref b11), .val (.ref b59), .unset, .unset, .unset, .unset, .unset, .unset, .unset, .unset] [])) _
      refine XS.iloadN X94.here hx rfl (hb hby at_83) rfl ?_
      show Steps p.tables e below (T94.setTop (mkF m 84 #[.val (.int c1), .val (.int c2), .val (.int c3), .val (.int d1), .val (.int d2), .val (.int d3), .val (.ref b1), .val (.ref b11), .val (.ref b59), .unset, .unset, .unset, .unset, .unset, .unset, .unset, .unset] [(.int c1)])) _
      refine XS.i2dS X94.here hx rfl (hb hby at_84) rfl rfl ?_
      show Steps p.tables e below (T94.setTop (mkF m 85 #[.val (.int c1), .val (.int c2), .val (.int c3), .val (.int d1), .val (.int d2), .val (.int d3), .val (.ref b1), .val (.ref b11), .val (.ref b59), .unset, .unset, .unset, .unset, .unset, .unset, .unset, .unset] [(.double (FP.i2d c1))])) _
      refine XS.dstore X94.here hx rfl (hb hby at_85) rfl (l' := #[.val (.int c1), .val (.int c2), .val (.int c3), .val (.int d1), .val (.int d2), .val (.int d3), .val (.ref b1), .val (.ref b11), .val (.ref b59), .val (.double (FP.i2d c1)), .second, .unset, .unset, .unset, .unset, .unset, .unset]) rfl ?_
      show Steps p.tables e below (T94.setTop (mkF m 87 #[.val (.int c1), .val (.int c2), .val (.int c3), .val (.int d1), .val (.int d2), .val (.int d3), .val (.ref b1), .val (.ref b11), .val (.ref b59), .val (.double (FP.i2d c1)), .second, .unset, .unset, .unset, .unset, .unset, .unset] [])) _
      refine XS.dload X94.here hx rfl (hb hby at_87) rfl ?_
      show Steps p.tables e below (T94.setTop (mkF m 89 #[.val (.int c1), .val (.int c2), .val (.int c3), .val (.int d1), .val (.int d2), .val (.int d3), .val (.ref b1), .val (.ref b11), .val (.ref b59), .val (.double (FP.i2d c1)), .second, .unset, .unset, .unset, .unset, .unset, .unset] [(.double (FP.i2d c1))])) _
      refine XS.iloadN X94.here hx rfl (hb hby at_89) rfl ?_
      show Steps p.tables e below (T94.setTop (mkF m 90 #[.val (.int c1), .val (.int c2), .val (.int c3), .val (.int d1), .val (.int d2), .val (.int d3), .val (.ref b1), .val (.ref b11), .val (.ref b59), .val (.double (FP.i2d c1)), .second, .unset, .unset, .unset, .unset, .unset, .unset] [(.int c2), (.double (FP.i2d c1))])) _
      refine XS.i2dS X94.here hx rfl (hb hby at_90) rfl rfl ?_
      show Steps p.tables e below (T94.setTop (mkF m 91 #[.val (.int c1), .val (.int c2), .val (.int c3), .val (.int d1), .val (.int d2), .val (.int d3), .val (.ref b1), .val (.ref b11), .val (.ref b59), .val (.double (FP.i2d c1)), .second, .unset, .unset, .unset, .unset, .unset, .unset] [(.double (FP.i2d c2)), (.double (FP.i2d c1))])) _
      refine XS.daddS X94.here hx rfl (hb hby at_91) rfl (own_na (own_ni c1) c2) rfl ?_
      show Steps p.tables e below (T94.setTop (mkF m 92 #[.val (.int c1), .val (.int c2), .val (.int c3), .val (.int d1), .val (.int d2), .val (.int d3), .val (.ref b1), .val (.ref b11), .val (.ref b59), .val (.double (FP.i2d c1)), .second, .unset, .unset, .unset, .unset, .unset, .unset] [(.double (FP.dadd (FP.i2d c1) (FP.i2d c2)))])) _
      refine XS.dstore X94.here hx rfl (hb hby at_92) rfl (l' := #[.val (.int c1), .val (.int c2), .val (.int c3), .val (.int d1), .val (.int d2), .val (.int d3), .val (.ref b1), .val (.ref b11), .val (.ref b59), .val (.double (FP.dadd (FP.i2d c1) (FP.i2d c2))), .second, .unset, .unset, .unset, .unset, .unset, .unset]) rfl ?_
      show Steps p.tables e below (T94.setTop (mkF m 94 #[.val (.int c1), .val (.int c2), .val (.int c3), .val (.int d1), .val (.int d2), .val (.int d3), .val (.ref b1), .val (.ref b11), .val (.ref b59), .val (.double (FP.dadd (FP.i2d c1) (FP.i2d c2))), .second, .unset, .unset, .unset, .unset, .unset, .unset] [])) _
      refine XS.dload X94.here hx rfl (hb hby at_94) rfl ?_
      show Steps p.tables e below (T94.setTop (mkF m 96 #[.val (.int c1), .val (.int c2), .val (.int c3), .val (.int d1), .val (.int d2), .val (.int d3), .val (.ref b1), .val (.ref b11), .val (.ref b59), .val (.double (FP.dadd (FP.i2d c1) (FP.i2d c2))), .second, .unset, .unset, .unset, .unset, .unset, .unset] [(.double (FP.dadd (FP.i2d c1) (FP.i2d c2)))])) _
      refine XS.iloadN X94.here hx rfl (hb hby at_96) rfl ?_
      show Steps p.tables e below (T94.setTop (mkF m 97 #[.val (.int c1), .val (.int c2), .val (.int c3), .val (.int d1), .val (.int d2), .val (.int d3), .val (.ref b1), .val (.ref b11), .val (.ref b59), .val (.double (FP.dadd (FP.i2d c1) (FP.i2d c2))), .second, .unset, .unset, .unset, .unset, .unset, .unset] [(.int c3), (.double (FP.dadd (FP.i2d c1) (FP.i2d c2)))])) _
      refine XS.i2dS X94.here hx rfl (hb hby at_97) rfl rfl ?_
      show Steps p.tables e below (T94.setTop (mkF m 98 #[.val (.int c1), .val (.int c2), .val (.int c3), .val (.int d1), .val (.int d2), .val (.int d3), .val (.ref b1), .val (.ref b11), .val (.ref b59), .val (.double (FP.dadd (FP.i2d c1) (FP.i2d c2))), .second, .unset, .unset, .unset, .unset, .unset, .unset] [(.double (FP.i2d c3)), (.double (FP.dadd (FP.i2d c1) (FP.i2d c2)))])) _
      refine XS.daddS X94.here hx rfl (hb hby at_98) rfl (own_na (own_na (own_ni c1) c2) c3) rfl ?_
      show Steps p.tables e below (T94.setTop (mkF m 99 #[.val (.int c1), .val (.int c2), .val (.int c3), .val (.int d1), .val (.int d2), .val (.int d3), .val (.ref b1), .val (.ref b11), .val (.ref b59), .val (.double (FP.dadd (FP.i2d c1) (FP.i2d c2))), .second, .unset, .unset, .unset, .unset, .unset, .unset] [(.double (FP.dadd (FP.dadd (FP.i2d c1) (FP.i2d c2)) (FP.i2d c3)))])) _
      refine XS.dstore X94.here hx rfl (hb hby at_99) rfl (l' := #[.val (.int c1), .val (.int c2), .val (.int c3), .val (.int d1), .val (.int d2), .val (.int d3), .val (.ref b1), .val (.ref b11), .val (.ref b59), .val (.double (FP.dadd (FP.dadd (FP.i2d c1) (FP.i2d c2)) (FP.i2d c3))), .second, .unset, .unset, .unset, .unset, .unset, .unset]) rfl ?_
      exact k)
  obtain ⟨ev_, hev_⟩ : ∃ z : UInt64, z = (FP.dadd (FP.dadd (FP.i2d c1) (FP.i2d c2)) (FP.i2d c3)) := ⟨_, rfl⟩
  have J99 : ∀ t, Steps p.tables e below (T94.setTop (mkF m 101 #[.val (.int c1), .val (.int c2), .val (.int c3), .val (.int d1), .val (.int d2), .val (.int d3), .val (.ref b1), .val (.ref b11), .val (.ref b59), .val (.double ev_), .second, .unset, .unset, .unset, .unset, .unset, .unset] [])) t → Steps p.tables e below (s₁.setTop (entryFrame m #[(.int c1), (.int c2), (.int c3), (.int d1), (.int d2), (.int d3)] maxLocals)) t := fun t k => J98 t (by subst hev_; exact k)
  have nE : Jvm.Free.Fl.NoNaN64 ev_ := by rw [hev_]; exact own_na (own_na (own_ni c1) c2) c3
  have J100 : ∀ t, Steps p.tables e below (T94.setTop (mkF m 104 #[.val (.int c1), .val (.int c2), .val (.int c3), .val (.int d1), .val (.int d2), .val (.int d3), .val (.ref b1), .val (.ref b11), .val (.ref b59), .val (.double ev_), .second, .val (.double FP.dconst0), .second, .unset, .unset, .unset, .unset] [])) t → Steps p.tables e below (s₁.setTop (entryFrame m #[(.int c1), (.int c2), (.int c3), (.int d1), (.int d2), (.int d3)] maxLocals)) t := fun t k => J99 t (by
      show Steps p.tables e below (T94.setTop (mkF m 101 #[.val (.int c1), .val (.int c2), .val (.int c3), .val (.int d1), .val (.int d2), .val (.int d3), .val (.ref b1), .val (.ref b11), .val (.ref b59), .val (.double ev_), .second, .unset, .unset, .unset, .unset, .unset, .unset] [])) _
      refine XS.dconst0 X94.here hx rfl (hb hby at_101) rfl ?_
      show Steps p.tables e below (T94.setTop (mkF m 102 #[.val (.int c1), .val (.int c2), .val (.int c3), .val (.int d1), .val (.int d2), .val (.int d3), .val (.ref b1), .val (.ref b11), .val (.ref b59), .val (.double ev_), .second, .unset, .unset, .unset, .unset, .unset, .unset] [(.double FP.dconst0)])) _
      refine XS.dstore X94.here hx rfl (hb hby at_102) rfl (l' := #[.val (.int c1), .val (.int c2), .val (.int c3), .val (.int d1), .val (.int d2), .val (.int d3), .val (.ref b1), .val (.ref b11), .val (.ref b59), .val (.double ev_), .second, .val (.double FP.dconst0), .second, .unset, .unset, .unset, .unset]) rfl ?_
      exact k)
  obtain ⟨la, hla⟩ : ∃ z : UInt64, z = (if (0 : Int32) < d3 then (FP.i2d d3) else (if (0 : Int32) < d2 then (FP.i2d d2) else (if (0 : Int32) < d1 then (FP.i2d d1) else FP.dconst0))) := ⟨_, rfl⟩
  have ps101 : ∀ t, Steps p.tables e below (T94.setTop (mkF m 138 #[.val (.int c1), .val (.int c2), .val (.int c3), .val (.int d1), .val (.int d2), .val (.int d3), .val (.ref b1), .val (.ref b11), .val (.ref b59), .val (.double ev_), .second, .val (.double la), .second, .unset, .unset, .unset, .unset] [])) t → Steps p.tables e below (T94.setTop (mkF m 104 #[.val (.int c1), .val (.int c2), .val (.int c3), .val (.int d1), .val (.int d2), .val (.int d3), .val (.ref b1), .val (.ref b11), .val (.ref b59), .val (.double ev_), .second, .val (.double FP.dconst0), .second, .unset, .unset, .unset, .unset] [])) t := by
    intro t k
    show Steps p.tables e below (T94.setTop (mkF m 104 #[.val (.int c1), .val (.int c2), .val (.int c3), .val (.int d1), .val (.int d2), .val (.int d3), .val (.ref b1), .val (.ref b11), .val (.ref b59), .val (.double ev_), .second, .val (.double FP.dconst0), .second, .unset, .unset, .unset, .unset] [])) _
    refine XS.iload X94.here hx rfl (hb hby at_104) rfl ?_
    by_cases hm106_0 : (0 : Int32) < d3
    ·
      show Steps p.tables e below (T94.setTop (mkF m 106 #[.val (.int c1), .val (.int c2), .val (.int c3), .val (.int d1), .val (.int d2), .val (.int d3), .val (.ref b1), .val (.ref b11), .val (.ref b59), .val (.double ev_), .second, .val (.double FP.dconst0), .second, .unset, .unset, .unset, .unset] [(.int d3)])) _
      refine XS.ifNo X94.here hx rfl (hb hby at_106) rfl ((if0 _ _).trans (tlt hm106_0).2.2.2) ?_
      show Steps p.tables e below (T94.setTop (mkF m 109 #[.val (.int c1), .val (.int c2), .val (.int c3), .val (.int d1), .val (.int d2), .val (.int d3), .val (.ref b1), .val (.ref b11), .val (.ref b59), .val (.double ev_), .second, .val (.double FP.dconst0), .second, .unset, .unset, .unset, .unset] [])) _
      refine XS.iload X94.here hx rfl (hb hby at_109) rfl ?_
      show Steps p.tables e below (T94.setTop (mkF m 111 #[.val (.int c1), .val (.int c2), .val (.int c3), .val (.int d1), .val (.int d2), .val (.int d3), .val (.ref b1), .val (.ref b11), .val (.ref b59), .val (.double ev_), .second, .val (.double FP.dconst0), .second, .unset, .unset, .unset, .unset] [(.int d3)])) _
      refine XS.i2dS X94.here hx rfl (hb hby at_111) rfl rfl ?_
      show Steps p.tables e below (T94.setTop (mkF m 112 #[.val (.int c1), .val (.int c2), .val (.int c3), .val (.int d1), .val (.int d2), .val (.int d3), .val (.ref b1), .val (.ref b11), .val (.ref b59), .val (.double ev_), .second, .val (.double FP.dconst0), .second, .unset, .unset, .unset, .unset] [(.double (FP.i2d d3))])) _
      refine XS.dstore X94.here hx rfl (hb hby at_112) rfl (l' := #[.val (.int c1), .val (.int c2), .val (.int c3), .val (.int d1), .val (.int d2), .val (.int d3), .val (.ref b1), .val (.ref b11), .val (.ref b59), .val (.double ev_), .second, .val (.double (FP.i2d d3)), .second, .unset, .unset, .unset, .unset]) rfl ?_
      show Steps p.tables e below (T94.setTop (mkF m 114 #[.val (.int c1), .val (.int c2), .val (.int c3), .val (.int d1), .val (.int d2), .val (.int d3), .val (.ref b1), .val (.ref b11), .val (.ref b59), .val (.double ev_), .second, .val (.double (FP.i2d d3)), .second, .unset, .unset, .unset, .unset] [])) _
      refine XS.goto X94.here hx rfl (pc0 := 114) (pc' := 138) rfl (hb hby at_114) (by decide) (by decide) ?_
      have qla : la = (FP.i2d d3) := by rw [hla]; simp only [hm106_0, if_true, if_false, reduceIte]
      rw [qla] at k
      exact k
    ·
      show Steps p.tables e below (T94.setTop (mkF m 106 #[.val (.int c1), .val (.int c2), .val (.int c3), .val (.int d1), .val (.int d2), .val (.int d3), .val (.ref b1), .val (.ref b11), .val (.ref b59), .val (.double ev_), .second, .val (.double FP.dconst0), .second, .unset, .unset, .unset, .unset] [(.int d3)])) _
      refine XS.ifYes X94.here hx rfl (pc0 := 106) (pc' := 117) rfl (hb hby at_106) rfl ((if0 _ _).trans (flt hm106_0).2.2.2) (by decide) (by decide) ?_
      show Steps p.tables e below (T94.setTop (mkF m 117 #[.val (.int c1), .val (.int c2), .val (.int c3), .val (.int d1), .val (.int d2), .val (.int d3), .val (.ref b1), .val (.ref b11), .val (.ref b59), .val (.double ev_), .second, .val (.double FP.dconst0), .second, .unset, .unset, .unset, .unset] [])) _
      refine XS.iload X94.here hx rfl (hb hby at_117) rfl ?_
      by_cases hm119_1 : (0 : Int32) < d2
      ·
        show Steps p.tables e below (T94.setTop (mkF m 119 #[.val (.int c1), .val (.int c2), .val (.int c3), .val (.int d1), .val (.int d2), .val (.int d3), .val (.ref b1), .val (.ref b11), .val (.ref b59), .val (.double ev_), .second, .val (.double FP.dconst0), .second, .unset, .unset, .unset, .unset] [(.int d2)])) _
        refine XS.ifNo X94.here hx rfl (hb hby at_119) rfl ((if0 _ _).trans (tlt hm119_1).2.2.2) ?_
        show Steps p.tables e below (T94.setTop (mkF m 122 #[.val (.int c1), .val (.int c2), .val (.int c3), .val (.int d1), .val (.int d2), .val (.int d3), .val (.ref b1), .val (.ref b11), .val (.ref b59), .val (.double ev_), .second, .val (.double FP.dconst0), .second, .unset, .unset, .unset, .unset] [])) _
        refine XS.iload X94.here hx rfl (hb hby at_122) rfl ?_
        show Steps p.tables e below (T94.setTop (mkF m 124 #[.val (.int c1), .val (.int c2), .val (.int c3), .val (.int d1), .val (.int d2), .val (.int d3), .val (.ref b1), .val (.ref b11), .val (.ref b59), .val (.double ev_), .second, .val (.double FP.dconst0), .second, .unset, .unset, .unset, .unset] [(.int d2)])) _
        refine XS.i2dS X94.here hx rfl (hb hby at_124) rfl rfl ?_
        show Steps p.tables e below (T94.setTop (mkF m 125 #[.val (.int c1), .val (.int c2), .val (.int c3), .val (.int d1), .val (.int d2), .val (.int d3), .val (.ref b1), .val (.ref b11), .val (.ref b59), .val (.double ev_), .second, .val (.double FP.dconst0), .second, .unset, .unset, .unset, .unset] [(.double (FP.i2d d2))])) _
        refine XS.dstore X94.here hx rfl (hb hby at_125) rfl (l' := #[.val (.int c1), .val (.int c2), .val (.int c3), .val (.int d1), .val (.int d2), .val (.int d3), .val (.ref b1), .val (.ref b11), .val (.ref b59), .val (.double ev_), .second, .val (.double (FP.i2d d2)), .second, .unset, .unset, .unset, .unset]) rfl ?_
        show Steps p.tables e below (T94.setTop (mkF m 127 #[.val (.int c1), .val (.int c2), .val (.int c3), .val (.int d1), .val (.int d2), .val (.int d3), .val (.ref b1), .val (.ref b11), .val (.ref b59), .val (.double ev_), .second, .val (.double (FP.i2d d2)), .second, .unset, .unset, .unset, .unset] [])) _
        refine XS.goto X94.here hx rfl (pc0 := 127) (pc' := 138) rfl (hb hby at_127) (by decide) (by decide) ?_
        have qla : la = (FP.i2d d2) := by rw [hla]; simp only [hm106_0, hm119_1, if_true, if_false, reduceIte]
        rw [qla] at k
        exact k
      ·
        show Steps p.tables e below (T94.setTop (mkF m 119 #[.val (.int c1), .val (.int c2), .val (.int c3), .val (.int d1), .val (.int d2), .val (.int d3), .val (.ref b1), .val (.ref b11), .val (.ref b59), .val (.double ev_), .second, .val (.double FP.dconst0), .second, .unset, .unset, .unset, .unset] [(.int d2)])) _
        refine XS.ifYes X94.here hx rfl (pc0 := 119) (pc' := 130) rfl (hb hby at_119) rfl ((if0 _ _).trans (flt hm119_1).2.2.2) (by decide) (by decide) ?_
        show Steps p.tables e below (T94.setTop (mkF m 130 #[.val (.int c1), .val (.int c2), .val (.int c3), .val (.int d1), .val (.int d2), .val (.int d3), .val (.ref b1), .val (.ref b11), .val (.ref b59), .val (.double ev_), .second, .val (.double FP.dconst0), .second, .unset, .unset, .unset, .unset] [])) _
        refine XS.iloadN X94.here hx rfl (hb hby at_130) rfl ?_
        by_cases hm131_2 : (0 : Int32) < d1
        ·
          show Steps p.tables e below (T94.setTop (mkF m 131 #[.val (.int c1), .val (.int c2), .val (.int c3), .val (.int d1), .val (.int d2), .val (.int d3), .val (.ref b1), .val (.ref b11), .val (.ref b59), .val (.double ev_), .second, .val (.double FP.dconst0), .second, .unset, .unset, .unset, .unset] [(.int d1)])) _
          refine XS.ifNo X94.here hx rfl (hb hby at_131) rfl ((if0 _ _).trans (tlt hm131_2).2.2.2) ?_
          show Steps p.tables e below (T94.setTop (mkF m 134 #[.val (.int c1), .val (.int c2), .val (.int c3), .val (.int d1), .val (.int d2), .val (.int d3), .val (.ref b1), .val (.ref b11), .val (.ref b59), .val (.double ev_), .second, .val (.double FP.dconst0), .second, .unset, .unset, .unset, .unset] [])) _
          refine XS.iloadN X94.here hx rfl (hb hby at_134) rfl ?_
          show Steps p.tables e below (T94.setTop (mkF m 135 #[.val (.int c1), .val (.int c2), .val (.int c3), .val (.int d1), .val (.int d2), .val (.int d3), .val (.ref b1), .val (.ref b11), .val (.ref b59), .val (.double ev_), .second, .val (.double FP.dconst0), .second, .unset, .unset, .unset, .unset] [(.int d1)])) _
          refine XS.i2dS X94.here hx rfl (hb hby at_135) rfl rfl ?_
          show Steps p.tables e below (T94.setTop (mkF m 136 #[.val (.int c1), .val (.int c2), .val (.int c3), .val (.int d1), .val (.int d2), .val (.int d3), .val (.ref b1), .val (.ref b11), .val (.ref b59), .val (.double ev_), .second, .val (.double FP.dconst0), .second, .unset, .unset, .unset, .unset] [(.double (FP.i2d d1))])) _
          refine XS.dstore X94.here hx rfl (hb hby at_136) rfl (l' := #[.val (.int c1), .val (.int c2), .val (.int c3), .val (.int d1), .val (.int d2), .val (.int d3), .val (.ref b1), .val (.ref b11), .val (.ref b59), .val (.double ev_), .second, .val (.double (FP.i2d d1)), .second, .unset, .unset, .unset, .unset]) rfl ?_
          have qla : la = (FP.i2d d1) := by rw [hla]; simp only [hm106_0, hm119_1, hm131_2, if_true, if_false, reduceIte]
          rw [qla] at k
          exact k
        ·
          show Steps p.tables e below (T94.setTop (mkF m 131 #[.val (.int c1), .val (.int c2), .val (.int c3), .val (.int d1), .val (.int d2), .val (.int d3), .val (.ref b1), .val (.ref b11), .val (.ref b59), .val (.double ev_), .second, .val (.double FP.dconst0), .second, .unset, .unset, .unset, .unset] [(.int d1)])) _
          refine XS.ifYes X94.here hx rfl (pc0 := 131) (pc' := 138) rfl (hb hby at_131) rfl ((if0 _ _).trans (flt hm131_2).2.2.2) (by decide) (by decide) ?_
          have qla : la = FP.dconst0 := by rw [hla]; simp only [hm106_0, hm119_1, hm131_2, if_true, if_false, reduceIte]
          rw [qla] at k
          exact k
  have J102 : ∀ t, Steps p.tables e below (T94.setTop (mkF m 138 #[.val (.int c1), .val (.int c2), .val (.int c3), .val (.int d1), .val (.int d2), .val (.int d3), .val (.ref b1), .val (.ref b11), .val (.ref b59), .val (.double ev_), .second, .val (.double la), .second, .unset, .unset, .unset, .unset] [])) t → Steps p.tables e below (s₁.setTop (entryFrame m #[(.int c1), (.int c2), (.int c3), (.int d1), (.int d2), (.int d3)] maxLocals)) t := fun t k => J100 t (ps101 t k)
  have hU := own_last d1 d2 d3 la hla
  have fE : Fld Z T94.heap b59 "com/example/graded_flow/gradedflow/microscopic/Entry" "entering" "D" (.double ev_) := by rw [hev_]; exact p94_4
  have fU : Fld Z T94.heap b59 "com/example/graded_flow/gradedflow/microscopic/Entry" "upstreamDensity" "D" (.double la) := by rw [← hU]; exact p94_5
  have J103 : ∀ t, Steps p.tables e below (T94.setTop (mkF m 147 #[.val (.int c1), .val (.int c2), .val (.int c3), .val (.int d1), .val (.int d2), .val (.int d3), .val (.ref b1), .val (.ref b11), .val (.ref b59), .val (.double ev_), .second, .val (.double la), .second, .val (.double (4636737291354636288 : UInt64)), .second, .unset, .unset] [(.int (cmpValue (FP.dcmp la FP.dconst0) .l))])) t → Steps p.tables e below (s₁.setTop (entryFrame m #[(.int c1), (.int c2), (.int c3), (.int d1), (.int d2), (.int d3)] maxLocals)) t := fun t k => J102 t (by
      show Steps p.tables e below (T94.setTop (mkF m 138 #[.val (.int c1), .val (.int c2), .val (.int c3), .val (.int d1), .val (.int d2), .val (.int d3), .val (.ref b1), .val (.ref b11), .val (.ref b59), .val (.double ev_), .second, .val (.double la), .second, .unset, .unset, .unset, .unset] [])) _
      refine X94.ldc2DoubleC hx hown (mvT hZ (hw _ (List.mem_of_getElem? (i := 4) rfl))) (g := (mkF m 138 #[.val (.int c1), .val (.int c2), .val (.int c3), .val (.int d1), .val (.int d2), .val (.int d3), .val (.ref b1), .val (.ref b11), .val (.ref b59), .val (.double ev_), .second, .val (.double la), .second, .unset, .unset, .unset, .unset] [])) rfl (hb hby at_138) _ ?_
      show Steps p.tables e below (T94.setTop (mkF m 141 #[.val (.int c1), .val (.int c2), .val (.int c3), .val (.int d1), .val (.int d2), .val (.int d3), .val (.ref b1), .val (.ref b11), .val (.ref b59), .val (.double ev_), .second, .val (.double la), .second, .unset, .unset, .unset, .unset] [(.double (4636737291354636288 : UInt64))])) _
      refine XS.dstore X94.here hx rfl (hb hby at_141) rfl (l' := #[.val (.int c1), .val (.int c2), .val (.int c3), .val (.int d1), .val (.int d2), .val (.int d3), .val (.ref b1), .val (.ref b11), .val (.ref b59), .val (.double ev_), .second, .val (.double la), .second, .val (.double (4636737291354636288 : UInt64)), .second, .unset, .unset]) rfl ?_
      show Steps p.tables e below (T94.setTop (mkF m 143 #[.val (.int c1), .val (.int c2), .val (.int c3), .val (.int d1), .val (.int d2), .val (.int d3), .val (.ref b1), .val (.ref b11), .val (.ref b59), .val (.double ev_), .second, .val (.double la), .second, .val (.double (4636737291354636288 : UInt64)), .second, .unset, .unset] [])) _
      refine XS.dload X94.here hx rfl (hb hby at_143) rfl ?_
      show Steps p.tables e below (T94.setTop (mkF m 145 #[.val (.int c1), .val (.int c2), .val (.int c3), .val (.int d1), .val (.int d2), .val (.int d3), .val (.ref b1), .val (.ref b11), .val (.ref b59), .val (.double ev_), .second, .val (.double la), .second, .val (.double (4636737291354636288 : UInt64)), .second, .unset, .unset] [(.double la)])) _
      refine XS.dconst0 X94.here hx rfl (hb hby at_145) rfl ?_
      show Steps p.tables e below (T94.setTop (mkF m 146 #[.val (.int c1), .val (.int c2), .val (.int c3), .val (.int d1), .val (.int d2), .val (.int d3), .val (.ref b1), .val (.ref b11), .val (.ref b59), .val (.double ev_), .second, .val (.double la), .second, .val (.double (4636737291354636288 : UInt64)), .second, .unset, .unset] [(.double FP.dconst0), (.double la)])) _
      refine XS.dcmpS X94.here hx rfl (hb hby at_146) rfl rfl ?_
      exact k)
  by_cases hl : (0 : Int32) < cmpValue (FP.dcmp la FP.dconst0) .l
  ·
    have J104 : ∀ t, Steps p.tables e below (T94.setTop (mkF m 150 #[.val (.int c1), .val (.int c2), .val (.int c3), .val (.int d1), .val (.int d2), .val (.int d3), .val (.ref b1), .val (.ref b11), .val (.ref b59), .val (.double ev_), .second, .val (.double la), .second, .val (.double (4636737291354636288 : UInt64)), .second, .unset, .unset] [])) t → Steps p.tables e below (s₁.setTop (entryFrame m #[(.int c1), (.int c2), (.int c3), (.int d1), (.int d2), (.int d3)] maxLocals)) t := fun t k => J103 t (by
        show Steps p.tables e below (T94.setTop (mkF m 147 #[.val (.int c1), .val (.int c2), .val (.int c3), .val (.int d1), .val (.int d2), .val (.int d3), .val (.ref b1), .val (.ref b11), .val (.ref b59), .val (.double ev_), .second, .val (.double la), .second, .val (.double (4636737291354636288 : UInt64)), .second, .unset, .unset] [(.int (cmpValue (FP.dcmp la FP.dconst0) .l))])) _
        refine XS.ifNo X94.here hx rfl (hb hby at_147) rfl ((if0 _ _).trans (tlt hl).2.2.2) ?_
        exact k)
    obtain ⟨dd, hdd, hlad⟩ := own_lpos d1 d2 d3 la hla hl
    have nQ : Jvm.Free.Fl.NoNaN64 (FP.ddiv ev_ la) := by rw [hlad]; exact own_nq nE hdd
    have J105 : ∀ t, Steps p.tables e below (T94.setTop (mkF m 162 #[.val (.int c1), .val (.int c2), .val (.int c3), .val (.int d1), .val (.int d2), .val (.int d3), .val (.ref b1), .val (.ref b11), .val (.ref b59), .val (.double ev_), .second, .val (.double la), .second, .val (.double (4636737291354636288 : UInt64)), .second, .val (.double (FP.ddiv ev_ la)), .second] [(.int (cmpValue (FP.dcmp (FP.ddiv ev_ la) (4636737291354636288 : UInt64)) .g))])) t → Steps p.tables e below (s₁.setTop (entryFrame m #[(.int c1), (.int c2), (.int c3), (.int d1), (.int d2), (.int d3)] maxLocals)) t := fun t k => J104 t (by
        show Steps p.tables e below (T94.setTop (mkF m 150 #[.val (.int c1), .val (.int c2), .val (.int c3), .val (.int d1), .val (.int d2), .val (.int d3), .val (.ref b1), .val (.ref b11), .val (.ref b59), .val (.double ev_), .second, .val (.double la), .second, .val (.double (4636737291354636288 : UInt64)), .second, .unset, .unset] [])) _
        refine XS.dload X94.here hx rfl (hb hby at_150) rfl ?_
        show Steps p.tables e below (T94.setTop (mkF m 152 #[.val (.int c1), .val (.int c2), .val (.int c3), .val (.int d1), .val (.int d2), .val (.int d3), .val (.ref b1), .val (.ref b11), .val (.ref b59), .val (.double ev_), .second, .val (.double la), .second, .val (.double (4636737291354636288 : UInt64)), .second, .unset, .unset] [(.double ev_)])) _
        refine XS.dload X94.here hx rfl (hb hby at_152) rfl ?_
        show Steps p.tables e below (T94.setTop (mkF m 154 #[.val (.int c1), .val (.int c2), .val (.int c3), .val (.int d1), .val (.int d2), .val (.int d3), .val (.ref b1), .val (.ref b11), .val (.ref b59), .val (.double ev_), .second, .val (.double la), .second, .val (.double (4636737291354636288 : UInt64)), .second, .unset, .unset] [(.double la), (.double ev_)])) _
        refine XS.ddivS X94.here hx rfl (hb hby at_154) rfl nQ rfl ?_
        show Steps p.tables e below (T94.setTop (mkF m 155 #[.val (.int c1), .val (.int c2), .val (.int c3), .val (.int d1), .val (.int d2), .val (.int d3), .val (.ref b1), .val (.ref b11), .val (.ref b59), .val (.double ev_), .second, .val (.double la), .second, .val (.double (4636737291354636288 : UInt64)), .second, .unset, .unset] [(.double (FP.ddiv ev_ la))])) _
        refine XS.dstore X94.here hx rfl (hb hby at_155) rfl (l' := #[.val (.int c1), .val (.int c2), .val (.int c3), .val (.int d1), .val (.int d2), .val (.int d3), .val (.ref b1), .val (.ref b11), .val (.ref b59), .val (.double ev_), .second, .val (.double la), .second, .val (.double (4636737291354636288 : UInt64)), .second, .val (.double (FP.ddiv ev_ la)), .second]) rfl ?_
        show Steps p.tables e below (T94.setTop (mkF m 157 #[.val (.int c1), .val (.int c2), .val (.int c3), .val (.int d1), .val (.int d2), .val (.int d3), .val (.ref b1), .val (.ref b11), .val (.ref b59), .val (.double ev_), .second, .val (.double la), .second, .val (.double (4636737291354636288 : UInt64)), .second, .val (.double (FP.ddiv ev_ la)), .second] [])) _
        refine XS.dload X94.here hx rfl (hb hby at_157) rfl ?_
        show Steps p.tables e below (T94.setTop (mkF m 159 #[.val (.int c1), .val (.int c2), .val (.int c3), .val (.int d1), .val (.int d2), .val (.int d3), .val (.ref b1), .val (.ref b11), .val (.ref b59), .val (.double ev_), .second, .val (.double la), .second, .val (.double (4636737291354636288 : UInt64)), .second, .val (.double (FP.ddiv ev_ la)), .second] [(.double (FP.ddiv ev_ la))])) _
        refine XS.dload X94.here hx rfl (hb hby at_159) rfl ?_
        show Steps p.tables e below (T94.setTop (mkF m 161 #[.val (.int c1), .val (.int c2), .val (.int c3), .val (.int d1), .val (.int d2), .val (.int d3), .val (.ref b1), .val (.ref b11), .val (.ref b59), .val (.double ev_), .second, .val (.double la), .second, .val (.double (4636737291354636288 : UInt64)), .second, .val (.double (FP.ddiv ev_ la)), .second] [(.double (4636737291354636288 : UInt64)), (.double (FP.ddiv ev_ la))])) _
        refine XS.dcmpS X94.here hx rfl (hb hby at_161) rfl rfl ?_
        exact k)
    by_cases hc : cmpValue (FP.dcmp (FP.ddiv ev_ la) own_100) .g < (0 : Int32)
    ·
      have J106 : ∀ t, Steps p.tables e below (T94.setTop (mkF m 172 #[.val (.int c1), .val (.int c2), .val (.int c3), .val (.int d1), .val (.int d2), .val (.int d3), .val (.ref b1), .val (.ref b11), .val (.ref b59), .val (.double ev_), .second, .val (.double la), .second, .val (.double (FP.ddiv ev_ la)), .second, .val (.double (FP.ddiv ev_ la)), .second] [(.double FP.dconst0), (.ref b59)])) t → Steps p.tables e below (s₁.setTop (entryFrame m #[(.int c1), (.int c2), (.int c3), (.int d1), (.int d2), (.int d3)] maxLocals)) t := fun t k => J105 t (by
          show Steps p.tables e below (T94.setTop (mkF m 162 #[.val (.int c1), .val (.int c2), .val (.int c3), .val (.int d1), .val (.int d2), .val (.int d3), .val (.ref b1), .val (.ref b11), .val (.ref b59), .val (.double ev_), .second, .val (.double la), .second, .val (.double (4636737291354636288 : UInt64)), .second, .val (.double (FP.ddiv ev_ la)), .second] [(.int (cmpValue (FP.dcmp (FP.ddiv ev_ la) (4636737291354636288 : UInt64)) .g))])) _
          refine XS.ifNo X94.here hx rfl (hb hby at_162) rfl ((if0 _ _).trans (tlt hc).2.1) ?_
          show Steps p.tables e below (T94.setTop (mkF m 165 #[.val (.int c1), .val (.int c2), .val (.int c3), .val (.int d1), .val (.int d2), .val (.int d3), .val (.ref b1), .val (.ref b11), .val (.ref b59), .val (.double ev_), .second, .val (.double la), .second, .val (.double (4636737291354636288 : UInt64)), .second, .val (.double (FP.ddiv ev_ la)), .second] [])) _
          refine XS.dload X94.here hx rfl (hb hby at_165) rfl ?_
          show Steps p.tables e below (T94.setTop (mkF m 167 #[.val (.int c1), .val (.int c2), .val (.int c3), .val (.int d1), .val (.int d2), .val (.int d3), .val (.ref b1), .val (.ref b11), .val (.ref b59), .val (.double ev_), .second, .val (.double la), .second, .val (.double (4636737291354636288 : UInt64)), .second, .val (.double (FP.ddiv ev_ la)), .second] [(.double (FP.ddiv ev_ la))])) _
          refine XS.dstore X94.here hx rfl (hb hby at_167) rfl (l' := #[.val (.int c1), .val (.int c2), .val (.int c3), .val (.int d1), .val (.int d2), .val (.int d3), .val (.ref b1), .val (.ref b11), .val (.ref b59), .val (.double ev_), .second, .val (.double la), .second, .val (.double (FP.ddiv ev_ la)), .second, .val (.double (FP.ddiv ev_ la)), .second]) rfl ?_
          show Steps p.tables e below (T94.setTop (mkF m 169 #[.val (.int c1), .val (.int c2), .val (.int c3), .val (.int d1), .val (.int d2), .val (.int d3), .val (.ref b1), .val (.ref b11), .val (.ref b59), .val (.double ev_), .second, .val (.double la), .second, .val (.double (FP.ddiv ev_ la)), .second, .val (.double (FP.ddiv ev_ la)), .second] [])) _
          refine XS.aload X94.here hx rfl (hb hby at_169) rfl rfl ?_
          show Steps p.tables e below (T94.setTop (mkF m 171 #[.val (.int c1), .val (.int c2), .val (.int c3), .val (.int d1), .val (.int d2), .val (.int d3), .val (.ref b1), .val (.ref b11), .val (.ref b59), .val (.double ev_), .second, .val (.double la), .second, .val (.double (FP.ddiv ev_ la)), .second, .val (.double (FP.ddiv ev_ la)), .second] [(.ref b59)])) _
          refine XS.dconst0 X94.here hx rfl (hb hby at_171) rfl ?_
          exact k)
      have f107 := f68.keep K78
      have f108 := f107.keep K83
      have f109 := f108.keep K89
      have f110 := f109.keep K94
      have f111 := p54_3.ext E59
      have f112 := f111.keep K78 (ninS ne64 nin0)
      have f113 := f112.keep K83 (ninS ne64 nin0)
      have f114 := f113.keep K89 (ninS ne64 nin0)
      have f115 := f114.keep K94 (ninS ne64 nin0)
      have f116 := f69.keep K78 (ninS ne64 nin0)
      have f117 := f116.keep K83 (ninS ne64 nin0)
      have f118 := f117.keep K89 (ninS ne64 nin0)
      have f119 := f118.keep K94 (ninS ne64 nin0)
      have f120 := f61.ext E59
      have f121 := f120.keep K78
      have f122 := f121.keep K83
      have f123 := f122.keep K89
      have f124 := f123.keep K94
      have f125 := p6_3.ext E11
      have f126 := f125.ext E18
      have f127 := f126.ext E23
      have f128 := f127.ext E28
      have f129 := f128.keep K54 (ninS ne13 nin0)
      have f130 := f129.ext E59
      have f131 := f130.keep K78 (ninS ne63 nin0)
      have f132 := f131.keep K83 (ninS ne63 nin0)
      have f133 := f132.keep K89 (ninS ne63 nin0)
      have f134 := f133.keep K94 (ninS ne63 nin0)
      obtain ⟨cq135, kq135, q135a, q135b, q135c⟩ := isOf hZ rfl p94_1
      obtain ⟨_, _, ⟨T135, L135, k135, n135⟩, -, X135, ⟨Lc135, hQ135, l135, y135, z135⟩, st135⟩ := X94.virtualBack hx (y := (⟨"com/example/graded_flow/gradedflow/microscopic/Entry", "entrySpeed", "(D)D"⟩ : MethodName)) (z := (⟨"com/example/graded_flow/gradedflow/microscopic/Entry", "entrySpeed", "(D)D"⟩ : MethodName)) hown (mvT hZ (hw _ (List.mem_of_getElem? (i := 164) rfl))) (mvT hZ (hw _ (List.mem_of_getElem? (i := 165) rfl))) (notFace_of_selects (args := #[]) (mvT hZ (hw _ (List.mem_of_getElem? (i := 167) rfl)))) (mvT hZ (hw _ (List.mem_of_getElem? (i := 167) rfl))) (mvT hZ (hw _ (List.mem_of_getElem? (i := 166) rfl))) (by decide) (backOf (W := 0) (rm18 l Z a0 hw [] b59 b11 ev_ la (0 : UInt64) b1 T94.heap n0 Z97 p94_1 nE (fun _ => nQ) p94_2 p94_3 fE fU p94_6 p94_7 f110 f115 f119 f124 f134) hZ (hw _ (List.mem_of_getElem? (i := 168) rfl)) (hw _ (List.mem_of_getElem? (i := 68) rfl)) (by decide) (by decide)) q135a q135c (g := (mkF m 172 #[.val (.int c1), .val (.int c2), .val (.int c3), .val (.int d1), .val (.int d2), .val (.int d3), .val (.ref b1), .val (.ref b11), .val (.ref b59), .val (.double ev_), .second, .val (.double la), .second, .val (.double (FP.ddiv ev_ la)), .second, .val (.double (FP.ddiv ev_ la)), .second] [(.double FP.dconst0), (.ref b59)])) rfl (by rw [hml]; rfl) (Steps.refl _) (argsL := [(.double FP.dconst0)]) (rest := []) (lenOf pd_15 rfl) rfl (by show 2 * 0 + _ ≤ _; exact Nat.le_of_eq rfl) (hb hby at_172) (fun _ _ => ⟨rfl, rfl, (by decide : 25 + 0 ≤ _), (by decide : 315 + 0 ≤ _)⟩)
      dsimp only [Pt.U, Pt.locs, Pt.cells, Pt.slots] at X135 l135 y135 z135 st135 hQ135
      subst l135 y135 z135
      obtain ⟨rfl, Nq135, e135⟩ := hQ135
      have N136 := Fr.app N95 Nq135
      have J137 : ∀ t, Steps p.tables e below (T135.setTop (mkF m 175 #[.val (.int c1), .val (.int c2), .val (.int c3), .val (.int d1), .val (.int d2), .val (.int d3), .val (.ref b1), .val (.ref b11), .val (.ref b59), .val (.double ev_), .second, .val (.double la), .second, .val (.double (FP.ddiv ev_ la)), .second, .val (.double (FP.ddiv ev_ la)), .second] [(.double (FP.ddiv (own_sp ev_ la) own_36))])) t → Steps p.tables e below (s₁.setTop (entryFrame m #[(.int c1), (.int c2), (.int c3), (.int d1), (.int d2), (.int d3)] maxLocals)) t := fun t k => J106 t (st135.trans k)
      have J138 : ∀ t, Steps p.tables e below (T135.setTop (mkF m 175 #[.val (.int c1), .val (.int c2), .val (.int c3), .val (.int d1), .val (.int d2), .val (.int d3), .val (.ref b1), .val (.ref b11), .val (.ref b59), .val (.double ev_), .second, .val (.double la), .second, .val (.double (FP.ddiv ev_ la)), .second, .val (.double (FP.ddiv ev_ la)), .second] [(.double (FP.ddiv (FP.ddiv ev_ la) own_36))])) t → Steps p.tables e below (s₁.setTop (entryFrame m #[(.int c1), (.int c2), (.int c3), (.int d1), (.int d2), (.int d3)] maxLocals)) t := fun t k => J137 t (by rw [show own_sp ev_ la = FP.ddiv ev_ la from (if_pos hl).trans (own_min_gt ((own_swap nQ).mpr hc))]; exact k)
      have J139 : ∀ t, Steps p.tables e below (T135.setTop (mkF m 194 #[.val (.int c1), .val (.int c2), .val (.int c3), .val (.int d1), .val (.int d2), .val (.int d3), .val (.ref b1), .val (.ref b11), .val (.ref b59), .val (.double ev_), .second, .val (.double la), .second, .val (.double (FP.ddiv ev_ la)), .second, .val (.int (1 : Int32)), .unset] [(.ref b59)])) t → Steps p.tables e below (s₁.setTop (entryFrame m #[(.int c1), (.int c2), (.int c3), (.int d1), (.int d2), (.int d3)] maxLocals)) t := fun t k => J138 t (by
          show Steps p.tables e below (T135.setTop (mkF m 175 #[.val (.int c1), .val (.int c2), .val (.int c3), .val (.int d1), .val (.int d2), .val (.int d3), .val (.ref b1), .val (.ref b11), .val (.ref b59), .val (.double ev_), .second, .val (.double la), .second, .val (.double (FP.ddiv ev_ la)), .second, .val (.double (FP.ddiv ev_ la)), .second] [(.double (FP.ddiv (FP.ddiv ev_ la) own_36))])) _
          refine XS.dload X135.here hx rfl (hb hby at_175) rfl ?_
          show Steps p.tables e below (T135.setTop (mkF m 177 #[.val (.int c1), .val (.int c2), .val (.int c3), .val (.int d1), .val (.int d2), .val (.int d3), .val (.ref b1), .val (.ref b11), .val (.ref b59), .val (.double ev_), .second, .val (.double la), .second, .val (.double (FP.ddiv ev_ la)), .second, .val (.double (FP.ddiv ev_ la)), .second] [(.double (FP.ddiv ev_ la)), (.double (FP.ddiv (FP.ddiv ev_ la) own_36))])) _
          refine X135.ldc2DoubleC hx hown (mvT hZ (hw _ (List.mem_of_getElem? (i := 184) rfl))) (g := (mkF m 177 #[.val (.int c1), .val (.int c2), .val (.int c3), .val (.int d1), .val (.int d2), .val (.int d3), .val (.ref b1), .val (.ref b11), .val (.ref b59), .val (.double ev_), .second, .val (.double la), .second, .val (.double (FP.ddiv ev_ la)), .second, .val (.double (FP.ddiv ev_ la)), .second] [(.double (FP.ddiv ev_ la)), (.double (FP.ddiv (FP.ddiv ev_ la) own_36))])) rfl (hb hby at_177) _ ?_
          show Steps p.tables e below (T135.setTop (mkF m 180 #[.val (.int c1), .val (.int c2), .val (.int c3), .val (.int d1), .val (.int d2), .val (.int d3), .val (.ref b1), .val (.ref b11), .val (.ref b59), .val (.double ev_), .second, .val (.double la), .second, .val (.double (FP.ddiv ev_ la)), .second, .val (.double (FP.ddiv ev_ la)), .second] [(.double (4615288898129284301 : UInt64)), (.double (FP.ddiv ev_ la)), (.double (FP.ddiv (FP.ddiv ev_ la) own_36))])) _
          refine XS.ddivS X135.here hx rfl (hb hby at_180) rfl (own_n3 nQ) rfl ?_
          show Steps p.tables e below (T135.setTop (mkF m 181 #[.val (.int c1), .val (.int c2), .val (.int c3), .val (.int d1), .val (.int d2), .val (.int d3), .val (.ref b1), .val (.ref b11), .val (.ref b59), .val (.double ev_), .second, .val (.double la), .second, .val (.double (FP.ddiv ev_ la)), .second, .val (.double (FP.ddiv ev_ la)), .second] [(.double (FP.ddiv (FP.ddiv ev_ la) (4615288898129284301 : UInt64))), (.double (FP.ddiv (FP.ddiv ev_ la) own_36))])) _
          refine XS.dcmpS X135.here hx rfl (hb hby at_181) rfl rfl ?_
          show Steps p.tables e below (T135.setTop (mkF m 182 #[.val (.int c1), .val (.int c2), .val (.int c3), .val (.int d1), .val (.int d2), .val (.int d3), .val (.ref b1), .val (.ref b11), .val (.ref b59), .val (.double ev_), .second, .val (.double la), .second, .val (.double (FP.ddiv ev_ la)), .second, .val (.double (FP.ddiv ev_ la)), .second] [(.int (cmpValue (FP.dcmp (FP.ddiv (FP.ddiv ev_ la) own_36) (FP.ddiv (FP.ddiv ev_ la) (4615288898129284301 : UInt64))) .l))])) _
          refine XS.ifNo X135.here hx rfl (hb hby at_182) rfl ((if0 _ _).trans (teq (dcmpV_self (own_n3 nQ) .l)).2) ?_
          show Steps p.tables e below (T135.setTop (mkF m 185 #[.val (.int c1), .val (.int c2), .val (.int c3), .val (.int d1), .val (.int d2), .val (.int d3), .val (.ref b1), .val (.ref b11), .val (.ref b59), .val (.double ev_), .second, .val (.double la), .second, .val (.double (FP.ddiv ev_ la)), .second, .val (.double (FP.ddiv ev_ la)), .second] [])) _
          refine XS.iconst X135.here hx rfl (hb hby at_185) ?_
          show Steps p.tables e below (T135.setTop (mkF m 186 #[.val (.int c1), .val (.int c2), .val (.int c3), .val (.int d1), .val (.int d2), .val (.int d3), .val (.ref b1), .val (.ref b11), .val (.ref b59), .val (.double ev_), .second, .val (.double la), .second, .val (.double (FP.ddiv ev_ la)), .second, .val (.double (FP.ddiv ev_ la)), .second] [(.int (1 : Int32))])) _
          refine XS.goto X135.here hx rfl (pc0 := 186) (pc' := 190) rfl (hb hby at_186) (by decide) (by decide) ?_
          show Steps p.tables e below (T135.setTop (mkF m 190 #[.val (.int c1), .val (.int c2), .val (.int c3), .val (.int d1), .val (.int d2), .val (.int d3), .val (.ref b1), .val (.ref b11), .val (.ref b59), .val (.double ev_), .second, .val (.double la), .second, .val (.double (FP.ddiv ev_ la)), .second, .val (.double (FP.ddiv ev_ la)), .second] [(.int (1 : Int32))])) _
          refine XS.istore X135.here hx rfl (hb hby at_190) rfl (l' := #[.val (.int c1), .val (.int c2), .val (.int c3), .val (.int d1), .val (.int d2), .val (.int d3), .val (.ref b1), .val (.ref b11), .val (.ref b59), .val (.double ev_), .second, .val (.double la), .second, .val (.double (FP.ddiv ev_ la)), .second, .val (.int (1 : Int32)), .unset]) rfl ?_
          show Steps p.tables e below (T135.setTop (mkF m 192 #[.val (.int c1), .val (.int c2), .val (.int c3), .val (.int d1), .val (.int d2), .val (.int d3), .val (.ref b1), .val (.ref b11), .val (.ref b59), .val (.double ev_), .second, .val (.double la), .second, .val (.double (FP.ddiv ev_ la)), .second, .val (.int (1 : Int32)), .unset] [])) _
          refine XS.aload X135.here hx rfl (hb hby at_192) rfl rfl ?_
          exact k)
      obtain ⟨av, hb53, hav⟩ := own_sum c1 c2 c3
      have hrem := own_rem hb53 (hev_.trans hav)
      obtain ⟨cq140, kq140, q140a, q140b, q140c⟩ := isOf hZ e135 p94_1
      obtain ⟨_, _, ⟨T140, L140, k140, n140⟩, -, X140, ⟨Lc140, hQ140, l140, y140, z140⟩, st140⟩ := X135.virtualBack hx (y := (⟨"com/example/graded_flow/gradedflow/microscopic/Entry", "endStep", "()V"⟩ : MethodName)) (z := (⟨"com/example/graded_flow/gradedflow/microscopic/Entry", "endStep", "()V"⟩ : MethodName)) hown (mvT hZ (hw _ (List.mem_of_getElem? (i := 185) rfl))) (mvT hZ (hw _ (List.mem_of_getElem? (i := 186) rfl))) (notFace_of_selects (args := #[]) (mvT hZ (hw _ (List.mem_of_getElem? (i := 188) rfl)))) (mvT hZ (hw _ (List.mem_of_getElem? (i := 188) rfl))) (mvT hZ (hw _ (List.mem_of_getElem? (i := 187) rfl))) (by decide) (backOf (W := 0) (rm22 l Z a0 hw [] b59 b11 ev_ la (0 : UInt64) T94.heap n0 Z97 p94_1 ge65 (Jvm.Free.Fl.dadd_out' (by unfold Jvm.Free.Fl.Fin64; decide +kernel) nE) (by rw [hrem]; exact nE) p94_2 p94_3 fE fU p94_6 p94_7) hZ (hw _ (List.mem_of_getElem? (i := 189) rfl)) (hw _ (List.mem_of_getElem? (i := 68) rfl)) (by decide) (by decide)) q140a q140c (g := (mkF m 194 #[.val (.int c1), .val (.int c2), .val (.int c3), .val (.int d1), .val (.int d2), .val (.int d3), .val (.ref b1), .val (.ref b11), .val (.ref b59), .val (.double ev_), .second, .val (.double la), .second, .val (.double (FP.ddiv ev_ la)), .second, .val (.int (1 : Int32)), .unset] [(.ref b59)])) rfl (by rw [hml]; rfl) (Steps.refl _) (argsL := []) (rest := []) (lenOf pd_0 rfl) rfl (by show 2 * 0 + _ ≤ _; exact Nat.le_of_eq rfl) (hb hby at_194) (fun _ _ => ⟨rfl, e135, (by decide : 25 + 0 ≤ _), (by decide : 315 + 0 ≤ _)⟩)
      dsimp only [Pt.U, Pt.locs, Pt.cells, Pt.slots] at X140 l140 y140 z140 st140 hQ140
      subst l140 y140 z140
      obtain ⟨rfl, Nq140, K140, p140_1, p140_2⟩ := hQ140
      have N141 := Fr.app N136 Nq140
      have J142 : ∀ t, Steps p.tables e below (T140.setTop (mkF m 197 #[.val (.int c1), .val (.int c2), .val (.int c3), .val (.int d1), .val (.int d2), .val (.int d3), .val (.ref b1), .val (.ref b11), .val (.ref b59), .val (.double ev_), .second, .val (.double la), .second, .val (.double (FP.ddiv ev_ la)), .second, .val (.int (1 : Int32)), .unset] [])) t → Steps p.tables e below (s₁.setTop (entryFrame m #[(.int c1), (.int c2), (.int c3), (.int d1), (.int d2), (.int d3)] maxLocals)) t := fun t k => J139 t (st140.trans k)
      have Z143 : n0 ≤ T140.heap.size := Nat.le_trans Z97 K140.1
      have kz := Nat.le_trans kz K140.1
      have J144 : ∀ t, Steps p.tables e below (T140.setTop (mkF m 199 #[.val (.int c1), .val (.int c2), .val (.int c3), .val (.int d1), .val (.int d2), .val (.int d3), .val (.ref b1), .val (.ref b11), .val (.ref b59), .val (.double ev_), .second, .val (.double la), .second, .val (.double (FP.ddiv ev_ la)), .second, .val (.int (1 : Int32)), .unset] [(.ref b59)])) t → Steps p.tables e below (s₁.setTop (entryFrame m #[(.int c1), (.int c2), (.int c3), (.int d1), (.int d2), (.int d3)] maxLocals)) t := fun t k => J142 t (by
          show Steps p.tables e below (T140.setTop (mkF m 197 #[.val (.int c1), .val (.int c2), .val (.int c3), .val (.int d1), .val (.int d2), .val (.int d3), .val (.ref b1), .val (.ref b11), .val (.ref b59), .val (.double ev_), .second, .val (.double la), .second, .val (.double (FP.ddiv ev_ la)), .second, .val (.int (1 : Int32)), .unset] [])) _
          refine XS.aload X140.here hx rfl (hb hby at_197) rfl rfl ?_
          exact k)
      obtain ⟨cq145, kq145, q145a, q145b, q145c⟩ := isOf hZ rfl p140_1
      obtain ⟨_, _, ⟨T145, L145, k145, n145⟩, -, X145, ⟨Lc145, hQ145, l145, y145, z145⟩, st145⟩ := X140.virtualBack hx (y := (⟨"com/example/graded_flow/gradedflow/microscopic/Entry", "remainder", "()D"⟩ : MethodName)) (z := (⟨"com/example/graded_flow/gradedflow/microscopic/Entry", "remainder", "()D"⟩ : MethodName)) hown (mvT hZ (hw _ (List.mem_of_getElem? (i := 194) rfl))) (mvT hZ (hw _ (List.mem_of_getElem? (i := 195) rfl))) (notFace_of_selects (args := #[]) (mvT hZ (hw _ (List.mem_of_getElem? (i := 197) rfl)))) (mvT hZ (hw _ (List.mem_of_getElem? (i := 197) rfl))) (mvT hZ (hw _ (List.mem_of_getElem? (i := 196) rfl))) (by decide) (backOf (W := 0) (rm23 l Z a0 hw [] b59 (FP.dsub (FP.dadd (0 : UInt64) ev_) (FP.i2d (0 : Int32))) T140.heap n0 Z143 p140_2) hZ (hw _ (List.mem_of_getElem? (i := 198) rfl)) (hw _ (List.mem_of_getElem? (i := 68) rfl)) (by decide) (by decide)) q145a q145c (g := (mkF m 199 #[.val (.int c1), .val (.int c2), .val (.int c3), .val (.int d1), .val (.int d2), .val (.int d3), .val (.ref b1), .val (.ref b11), .val (.ref b59), .val (.double ev_), .second, .val (.double la), .second, .val (.double (FP.ddiv ev_ la)), .second, .val (.int (1 : Int32)), .unset] [(.ref b59)])) rfl (by rw [hml]; rfl) (Steps.refl _) (argsL := []) (rest := []) (lenOf pd_9 rfl) rfl (by show 2 * 0 + _ ≤ _; exact Nat.le_of_eq rfl) (hb hby at_199) (fun _ _ => ⟨rfl, rfl, (by decide : 25 + 0 ≤ _), (by decide : 315 + 0 ≤ _)⟩)
      dsimp only [Pt.U, Pt.locs, Pt.cells, Pt.slots] at X145 l145 y145 z145 st145 hQ145
      subst l145 y145 z145
      obtain ⟨rfl, Nq145, e145⟩ := hQ145
      have N146 := Fr.app N141 Nq145
      have J147 : ∀ t, Steps p.tables e below (T145.setTop (mkF m 202 #[.val (.int c1), .val (.int c2), .val (.int c3), .val (.int d1), .val (.int d2), .val (.int d3), .val (.ref b1), .val (.ref b11), .val (.ref b59), .val (.double ev_), .second, .val (.double la), .second, .val (.double (FP.ddiv ev_ la)), .second, .val (.int (1 : Int32)), .unset] [(.double (FP.dsub (FP.dadd (0 : UInt64) ev_) (FP.i2d (0 : Int32))))])) t → Steps p.tables e below (s₁.setTop (entryFrame m #[(.int c1), (.int c2), (.int c3), (.int d1), (.int d2), (.int d3)] maxLocals)) t := fun t k => J144 t (st145.trans k)
      have J148 : ∀ t, Steps p.tables e below (T145.setTop (mkF m 202 #[.val (.int c1), .val (.int c2), .val (.int c3), .val (.int d1), .val (.int d2), .val (.int d3), .val (.ref b1), .val (.ref b11), .val (.ref b59), .val (.double ev_), .second, .val (.double la), .second, .val (.double (FP.ddiv ev_ la)), .second, .val (.int (1 : Int32)), .unset] [(.double ev_)])) t → Steps p.tables e below (s₁.setTop (entryFrame m #[(.int c1), (.int c2), (.int c3), (.int d1), (.int d2), (.int d3)] maxLocals)) t := fun t k => J147 t (by rw [hrem]; exact k)
      have J149 : ∀ t, Steps p.tables e below (T145.setTop (mkF m 230 #[.val (.int c1), .val (.int c2), .val (.int c3), .val (.int d1), .val (.int d2), .val (.int d3), .val (.ref b1), .val (.ref b11), .val (.ref b59), .val (.double ev_), .second, .val (.double la), .second, .val (.double (FP.ddiv ev_ la)), .second, .val (.int (1 : Int32)), .val (.int (1 : Int32))] [(.int (1 : Int32))])) t → Steps p.tables e below (s₁.setTop (entryFrame m #[(.int c1), (.int c2), (.int c3), (.int d1), (.int d2), (.int d3)] maxLocals)) t := fun t k => J148 t (by
          show Steps p.tables e below (T145.setTop (mkF m 202 #[.val (.int c1), .val (.int c2), .val (.int c3), .val (.int d1), .val (.int d2), .val (.int d3), .val (.ref b1), .val (.ref b11), .val (.ref b59), .val (.double ev_), .second, .val (.double la), .second, .val (.double (FP.ddiv ev_ la)), .second, .val (.int (1 : Int32)), .unset] [(.double ev_)])) _
          refine XS.dload X145.here hx rfl (hb hby at_202) rfl ?_
          show Steps p.tables e below (T145.setTop (mkF m 204 #[.val (.int c1), .val (.int c2), .val (.int c3), .val (.int d1), .val (.int d2), .val (.int d3), .val (.ref b1), .val (.ref b11), .val (.ref b59), .val (.double ev_), .second, .val (.double la), .second, .val (.double (FP.ddiv ev_ la)), .second, .val (.int (1 : Int32)), .unset] [(.double ev_), (.double ev_)])) _
          refine XS.dcmpS X145.here hx rfl (hb hby at_204) rfl rfl ?_
          show Steps p.tables e below (T145.setTop (mkF m 205 #[.val (.int c1), .val (.int c2), .val (.int c3), .val (.int d1), .val (.int d2), .val (.int d3), .val (.ref b1), .val (.ref b11), .val (.ref b59), .val (.double ev_), .second, .val (.double la), .second, .val (.double (FP.ddiv ev_ la)), .second, .val (.int (1 : Int32)), .unset] [(.int (cmpValue (FP.dcmp ev_ ev_) .l))])) _
          refine XS.ifNo X145.here hx rfl (hb hby at_205) rfl ((if0 _ _).trans (teq (dcmpV_self nE .l)).2) ?_
          show Steps p.tables e below (T145.setTop (mkF m 208 #[.val (.int c1), .val (.int c2), .val (.int c3), .val (.int d1), .val (.int d2), .val (.int d3), .val (.ref b1), .val (.ref b11), .val (.ref b59), .val (.double ev_), .second, .val (.double la), .second, .val (.double (FP.ddiv ev_ la)), .second, .val (.int (1 : Int32)), .unset] [])) _
          refine XS.iconst X145.here hx rfl (hb hby at_208) ?_
          show Steps p.tables e below (T145.setTop (mkF m 209 #[.val (.int c1), .val (.int c2), .val (.int c3), .val (.int d1), .val (.int d2), .val (.int d3), .val (.ref b1), .val (.ref b11), .val (.ref b59), .val (.double ev_), .second, .val (.double la), .second, .val (.double (FP.ddiv ev_ la)), .second, .val (.int (1 : Int32)), .unset] [(.int (1 : Int32))])) _
          refine XS.goto X145.here hx rfl (pc0 := 209) (pc' := 213) rfl (hb hby at_209) (by decide) (by decide) ?_
          show Steps p.tables e below (T145.setTop (mkF m 213 #[.val (.int c1), .val (.int c2), .val (.int c3), .val (.int d1), .val (.int d2), .val (.int d3), .val (.ref b1), .val (.ref b11), .val (.ref b59), .val (.double ev_), .second, .val (.double la), .second, .val (.double (FP.ddiv ev_ la)), .second, .val (.int (1 : Int32)), .unset] [(.int (1 : Int32))])) _
          refine XS.istore X145.here hx rfl (hb hby at_213) rfl (l' := #[.val (.int c1), .val (.int c2), .val (.int c3), .val (.int d1), .val (.int d2), .val (.int d3), .val (.ref b1), .val (.ref b11), .val (.ref b59), .val (.double ev_), .second, .val (.double la), .second, .val (.double (FP.ddiv ev_ la)), .second, .val (.int (1 : Int32)), .val (.int (1 : Int32))]) rfl ?_
          show Steps p.tables e below (T145.setTop (mkF m 215 #[.val (.int c1), .val (.int c2), .val (.int c3), .val (.int d1), .val (.int d2), .val (.int d3), .val (.ref b1), .val (.ref b11), .val (.ref b59), .val (.double ev_), .second, .val (.double la), .second, .val (.double (FP.ddiv ev_ la)), .second, .val (.int (1 : Int32)), .val (.int (1 : Int32))] [])) _
          refine XS.iload X145.here hx rfl (hb hby at_215) rfl ?_
          show Steps p.tables e below (T145.setTop (mkF m 217 #[.val (.int c1), .val (.int c2), .val (.int c3), .val (.int d1), .val (.int d2), .val (.int d3), .val (.ref b1), .val (.ref b11), .val (.ref b59), .val (.double ev_), .second, .val (.double la), .second, .val (.double (FP.ddiv ev_ la)), .second, .val (.int (1 : Int32)), .val (.int (1 : Int32))] [(.int (1 : Int32))])) _
          refine XS.ifNo X145.here hx rfl (hb hby at_217) rfl ((if0 _ _).trans (feq (by decide)).1) ?_
          show Steps p.tables e below (T145.setTop (mkF m 220 #[.val (.int c1), .val (.int c2), .val (.int c3), .val (.int d1), .val (.int d2), .val (.int d3), .val (.ref b1), .val (.ref b11), .val (.ref b59), .val (.double ev_), .second, .val (.double la), .second, .val (.double (FP.ddiv ev_ la)), .second, .val (.int (1 : Int32)), .val (.int (1 : Int32))] [])) _
          refine XS.iload X145.here hx rfl (hb hby at_220) rfl ?_
          show Steps p.tables e below (T145.setTop (mkF m 222 #[.val (.int c1), .val (.int c2), .val (.int c3), .val (.int d1), .val (.int d2), .val (.int d3), .val (.ref b1), .val (.ref b11), .val (.ref b59), .val (.double ev_), .second, .val (.double la), .second, .val (.double (FP.ddiv ev_ la)), .second, .val (.int (1 : Int32)), .val (.int (1 : Int32))] [(.int (1 : Int32))])) _
          refine XS.ifNo X145.here hx rfl (hb hby at_222) rfl ((if0 _ _).trans (feq (by decide)).1) ?_
          show Steps p.tables e below (T145.setTop (mkF m 225 #[.val (.int c1), .val (.int c2), .val (.int c3), .val (.int d1), .val (.int d2), .val (.int d3), .val (.ref b1), .val (.ref b11), .val (.ref b59), .val (.double ev_), .second, .val (.double la), .second, .val (.double (FP.ddiv ev_ la)), .second, .val (.int (1 : Int32)), .val (.int (1 : Int32))] [])) _
          refine XS.iconst X145.here hx rfl (hb hby at_225) ?_
          show Steps p.tables e below (T145.setTop (mkF m 226 #[.val (.int c1), .val (.int c2), .val (.int c3), .val (.int d1), .val (.int d2), .val (.int d3), .val (.ref b1), .val (.ref b11), .val (.ref b59), .val (.double ev_), .second, .val (.double la), .second, .val (.double (FP.ddiv ev_ la)), .second, .val (.int (1 : Int32)), .val (.int (1 : Int32))] [(.int (1 : Int32))])) _
          refine XS.goto X145.here hx rfl (pc0 := 226) (pc' := 230) rfl (hb hby at_226) (by decide) (by decide) ?_
          exact k)
      obtain ⟨fs, hr, hrun, hended, hWW⟩ := X145.leaveW hSi (by rw [e145]; exact kz) (v := some (.int (1 : Int32))) (fun h => by rw [Bd.returns] at h; cases h)
      refine ⟨_, _, J149 _ ?_, hrun, hended, _, _, rfl, ?_, hWW.1, hWW.2.1, hWW.2.2.1, hWW.2.2.2.mono (by decide) (by decide)⟩
      · show Steps p.tables e below (T145.setTop (mkF m 230 #[.val (.int c1), .val (.int c2), .val (.int c3), .val (.int d1), .val (.int d2), .val (.int d3), .val (.ref b1), .val (.ref b11), .val (.ref b59), .val (.double ev_), .second, .val (.double la), .second, .val (.double (FP.ddiv ev_ la)), .second, .val (.int (1 : Int32)), .val (.int (1 : Int32))] [(.int (1 : Int32))])) _
        exact retN X145 hx (t := .boolean) Bd.returns (by simp) (hb hby at_230) hr
      · show Q0 Z c1 c2 c3 d1 d2 d3 h0 n0 _ T145.heap _
        rw [e145]
        exact ⟨rfl, N146⟩
    ·
      have J150 : ∀ t, Steps p.tables e below (T94.setTop (mkF m 172 #[.val (.int c1), .val (.int c2), .val (.int c3), .val (.int d1), .val (.int d2), .val (.int d3), .val (.ref b1), .val (.ref b11), .val (.ref b59), .val (.double ev_), .second, .val (.double la), .second, .val (.double (4636737291354636288 : UInt64)), .second, .val (.double (FP.ddiv ev_ la)), .second] [(.double FP.dconst0), (.ref b59)])) t → Steps p.tables e below (s₁.setTop (entryFrame m #[(.int c1), (.int c2), (.int c3), (.int d1), (.int d2), (.int d3)] maxLocals)) t := fun t k => J105 t (by
          show Steps p.tables e below (T94.setTop (mkF m 162 #[.val (.int c1), .val (.int c2), .val (.int c3), .val (.int d1), .val (.int d2), .val (.int d3), .val (.ref b1), .val (.ref b11), .val (.ref b59), .val (.double ev_), .second, .val (.double la), .second, .val (.double (4636737291354636288 : UInt64)), .second, .val (.double (FP.ddiv ev_ la)), .second] [(.int (cmpValue (FP.dcmp (FP.ddiv ev_ la) (4636737291354636288 : UInt64)) .g))])) _
          refine XS.ifYes X94.here hx rfl (pc0 := 162) (pc' := 169) rfl (hb hby at_162) rfl ((if0 _ _).trans (flt hc).2.1) (by decide) (by decide) ?_
          show Steps p.tables e below (T94.setTop (mkF m 169 #[.val (.int c1), .val (.int c2), .val (.int c3), .val (.int d1), .val (.int d2), .val (.int d3), .val (.ref b1), .val (.ref b11), .val (.ref b59), .val (.double ev_), .second, .val (.double la), .second, .val (.double (4636737291354636288 : UInt64)), .second, .val (.double (FP.ddiv ev_ la)), .second] [])) _
          refine XS.aload X94.here hx rfl (hb hby at_169) rfl rfl ?_
          show Steps p.tables e below (T94.setTop (mkF m 171 #[.val (.int c1), .val (.int c2), .val (.int c3), .val (.int d1), .val (.int d2), .val (.int d3), .val (.ref b1), .val (.ref b11), .val (.ref b59), .val (.double ev_), .second, .val (.double la), .second, .val (.double (4636737291354636288 : UInt64)), .second, .val (.double (FP.ddiv ev_ la)), .second] [(.ref b59)])) _
          refine XS.dconst0 X94.here hx rfl (hb hby at_171) rfl ?_
          exact k)
      have f151 := f68.keep K78
      have f152 := f151.keep K83
      have f153 := f152.keep K89
      have f154 := f153.keep K94
      have f155 := p54_3.ext E59
      have f156 := f155.keep K78 (ninS ne64 nin0)
      have f157 := f156.keep K83 (ninS ne64 nin0)
      have f158 := f157.keep K89 (ninS ne64 nin0)
      have f159 := f158.keep K94 (ninS ne64 nin0)
      have f160 := f69.keep K78 (ninS ne64 nin0)
      have f161 := f160.keep K83 (ninS ne64 nin0)
      have f162 := f161.keep K89 (ninS ne64 nin0)
      have f163 := f162.keep K94 (ninS ne64 nin0)
      have f164 := f61.ext E59
      have f165 := f164.keep K78
      have f166 := f165.keep K83
      have f167 := f166.keep K89
      have f168 := f167.keep K94
      have f169 := p6_3.ext E11
      have f170 := f169.ext E18
      have f171 := f170.ext E23
      have f172 := f171.ext E28
      have f173 := f172.keep K54 (ninS ne13 nin0)
      have f174 := f173.ext E59
      have f175 := f174.keep K78 (ninS ne63 nin0)
      have f176 := f175.keep K83 (ninS ne63 nin0)
      have f177 := f176.keep K89 (ninS ne63 nin0)
      have f178 := f177.keep K94 (ninS ne63 nin0)
      obtain ⟨cq179, kq179, q179a, q179b, q179c⟩ := isOf hZ rfl p94_1
      obtain ⟨_, _, ⟨T179, L179, k179, n179⟩, -, X179, ⟨Lc179, hQ179, l179, y179, z179⟩, st179⟩ := X94.virtualBack hx (y := (⟨"com/example/graded_flow/gradedflow/microscopic/Entry", "entrySpeed", "(D)D"⟩ : MethodName)) (z := (⟨"com/example/graded_flow/gradedflow/microscopic/Entry", "entrySpeed", "(D)D"⟩ : MethodName)) hown (mvT hZ (hw _ (List.mem_of_getElem? (i := 164) rfl))) (mvT hZ (hw _ (List.mem_of_getElem? (i := 165) rfl))) (notFace_of_selects (args := #[]) (mvT hZ (hw _ (List.mem_of_getElem? (i := 167) rfl)))) (mvT hZ (hw _ (List.mem_of_getElem? (i := 167) rfl))) (mvT hZ (hw _ (List.mem_of_getElem? (i := 166) rfl))) (by decide) (backOf (W := 0) (rm18 l Z a0 hw [] b59 b11 ev_ la (0 : UInt64) b1 T94.heap n0 Z97 p94_1 nE (fun _ => nQ) p94_2 p94_3 fE fU p94_6 p94_7 f154 f159 f163 f168 f178) hZ (hw _ (List.mem_of_getElem? (i := 168) rfl)) (hw _ (List.mem_of_getElem? (i := 68) rfl)) (by decide) (by decide)) q179a q179c (g := (mkF m 172 #[.val (.int c1), .val (.int c2), .val (.int c3), .val (.int d1), .val (.int d2), .val (.int d3), .val (.ref b1), .val (.ref b11), .val (.ref b59), .val (.double ev_), .second, .val (.double la), .second, .val (.double (4636737291354636288 : UInt64)), .second, .val (.double (FP.ddiv ev_ la)), .second] [(.double FP.dconst0), (.ref b59)])) rfl (by rw [hml]; rfl) (Steps.refl _) (argsL := [(.double FP.dconst0)]) (rest := []) (lenOf pd_15 rfl) rfl (by show 2 * 0 + _ ≤ _; exact Nat.le_of_eq rfl) (hb hby at_172) (fun _ _ => ⟨rfl, rfl, (by decide : 25 + 0 ≤ _), (by decide : 315 + 0 ≤ _)⟩)
      dsimp only [Pt.U, Pt.locs, Pt.cells, Pt.slots] at X179 l179 y179 z179 st179 hQ179
      subst l179 y179 z179
      obtain ⟨rfl, Nq179, e179⟩ := hQ179
      have N180 := Fr.app N95 Nq179
      have J181 : ∀ t, Steps p.tables e below (T179.setTop (mkF m 175 #[.val (.int c1), .val (.int c2), .val (.int c3), .val (.int d1), .val (.int d2), .val (.int d3), .val (.ref b1), .val (.ref b11), .val (.ref b59), .val (.double ev_), .second, .val (.double la), .second, .val (.double (4636737291354636288 : UInt64)), .second, .val (.double (FP.ddiv ev_ la)), .second] [(.double (FP.ddiv (own_sp ev_ la) own_36))])) t → Steps p.tables e below (s₁.setTop (entryFrame m #[(.int c1), (.int c2), (.int c3), (.int d1), (.int d2), (.int d3)] maxLocals)) t := fun t k => J150 t (st179.trans k)
      have J182 : ∀ t, Steps p.tables e below (T179.setTop (mkF m 175 #[.val (.int c1), .val (.int c2), .val (.int c3), .val (.int d1), .val (.int d2), .val (.int d3), .val (.ref b1), .val (.ref b11), .val (.ref b59), .val (.double ev_), .second, .val (.double la), .second, .val (.double (4636737291354636288 : UInt64)), .second, .val (.double (FP.ddiv ev_ la)), .second] [(.double (FP.ddiv own_100 own_36))])) t → Steps p.tables e below (s₁.setTop (entryFrame m #[(.int c1), (.int c2), (.int c3), (.int d1), (.int d2), (.int d3)] maxLocals)) t := fun t k => J181 t (by rw [show own_sp ev_ la = own_100 from (if_pos hl).trans (own_min_le nQ (fun q => hc ((own_swap nQ).mp q)))]; exact k)
      have J183 : ∀ t, Steps p.tables e below (T179.setTop (mkF m 194 #[.val (.int c1), .val (.int c2), .val (.int c3), .val (.int d1), .val (.int d2), .val (.int d3), .val (.ref b1), .val (.ref b11), .val (.ref b59), .val (.double ev_), .second, .val (.double la), .second, .val (.double (4636737291354636288 : UInt64)), .second, .val (.int (1 : Int32)), .unset] [(.ref b59)])) t → Steps p.tables e below (s₁.setTop (entryFrame m #[(.int c1), (.int c2), (.int c3), (.int d1), (.int d2), (.int d3)] maxLocals)) t := fun t k => J182 t (by
          show Steps p.tables e below (T179.setTop (mkF m 175 #[.val (.int c1), .val (.int c2), .val (.int c3), .val (.int d1), .val (.int d2), .val (.int d3), .val (.ref b1), .val (.ref b11), .val (.ref b59), .val (.double ev_), .second, .val (.double la), .second, .val (.double (4636737291354636288 : UInt64)), .second, .val (.double (FP.ddiv ev_ la)), .second] [(.double (FP.ddiv own_100 own_36))])) _
          refine XS.dload X179.here hx rfl (hb hby at_175) rfl ?_
          show Steps p.tables e below (T179.setTop (mkF m 177 #[.val (.int c1), .val (.int c2), .val (.int c3), .val (.int d1), .val (.int d2), .val (.int d3), .val (.ref b1), .val (.ref b11), .val (.ref b59), .val (.double ev_), .second, .val (.double la), .second, .val (.double (4636737291354636288 : UInt64)), .second, .val (.double (FP.ddiv ev_ la)), .second] [(.double (4636737291354636288 : UInt64)), (.double (FP.ddiv own_100 own_36))])) _
          refine X179.ldc2DoubleC hx hown (mvT hZ (hw _ (List.mem_of_getElem? (i := 184) rfl))) (g := (mkF m 177 #[.val (.int c1), .val (.int c2), .val (.int c3), .val (.int d1), .val (.int d2), .val (.int d3), .val (.ref b1), .val (.ref b11), .val (.ref b59), .val (.double ev_), .second, .val (.double la), .second, .val (.double (4636737291354636288 : UInt64)), .second, .val (.double (FP.ddiv ev_ la)), .second] [(.double (4636737291354636288 : UInt64)), (.double (FP.ddiv own_100 own_36))])) rfl (hb hby at_177) _ ?_
          show Steps p.tables e below (T179.setTop (mkF m 180 #[.val (.int c1), .val (.int c2), .val (.int c3), .val (.int d1), .val (.int d2), .val (.int d3), .val (.ref b1), .val (.ref b11), .val (.ref b59), .val (.double ev_), .second, .val (.double la), .second, .val (.double (4636737291354636288 : UInt64)), .second, .val (.double (FP.ddiv ev_ la)), .second] [(.double (4615288898129284301 : UInt64)), (.double (4636737291354636288 : UInt64)), (.double (FP.ddiv own_100 own_36))])) _
          refine XS.ddivS X179.here hx rfl (hb hby at_180) rfl (own_n3 own_n100) rfl ?_
          show Steps p.tables e below (T179.setTop (mkF m 181 #[.val (.int c1), .val (.int c2), .val (.int c3), .val (.int d1), .val (.int d2), .val (.int d3), .val (.ref b1), .val (.ref b11), .val (.ref b59), .val (.double ev_), .second, .val (.double la), .second, .val (.double (4636737291354636288 : UInt64)), .second, .val (.double (FP.ddiv ev_ la)), .second] [(.double (FP.ddiv (4636737291354636288 : UInt64) (4615288898129284301 : UInt64))), (.double (FP.ddiv own_100 own_36))])) _
          refine XS.dcmpS X179.here hx rfl (hb hby at_181) rfl rfl ?_
          show Steps p.tables e below (T179.setTop (mkF m 182 #[.val (.int c1), .val (.int c2), .val (.int c3), .val (.int d1), .val (.int d2), .val (.int d3), .val (.ref b1), .val (.ref b11), .val (.ref b59), .val (.double ev_), .second, .val (.double la), .second, .val (.double (4636737291354636288 : UInt64)), .second, .val (.double (FP.ddiv ev_ la)), .second] [(.int (cmpValue (FP.dcmp (FP.ddiv own_100 own_36) (FP.ddiv (4636737291354636288 : UInt64) (4615288898129284301 : UInt64))) .l))])) _
          refine XS.ifNo X179.here hx rfl (hb hby at_182) rfl ((if0 _ _).trans (teq (dcmpV_self (own_n3 own_n100) .l)).2) ?_
          show Steps p.tables e below (T179.setTop (mkF m 185 #[.val (.int c1), .val (.int c2), .val (.int c3), .val (.int d1), .val (.int d2), .val (.int d3), .val (.ref b1), .val (.ref b11), .val (.ref b59), .val (.double ev_), .second, .val (.double la), .second, .val (.double (4636737291354636288 : UInt64)), .second, .val (.double (FP.ddiv ev_ la)), .second] [])) _
          refine XS.iconst X179.here hx rfl (hb hby at_185) ?_
          show Steps p.tables e below (T179.setTop (mkF m 186 #[.val (.int c1), .val (.int c2), .val (.int c3), .val (.int d1), .val (.int d2), .val (.int d3), .val (.ref b1), .val (.ref b11), .val (.ref b59), .val (.double ev_), .second, .val (.double la), .second, .val (.double (4636737291354636288 : UInt64)), .second, .val (.double (FP.ddiv ev_ la)), .second] [(.int (1 : Int32))])) _
          refine XS.goto X179.here hx rfl (pc0 := 186) (pc' := 190) rfl (hb hby at_186) (by decide) (by decide) ?_
          show Steps p.tables e below (T179.setTop (mkF m 190 #[.val (.int c1), .val (.int c2), .val (.int c3), .val (.int d1), .val (.int d2), .val (.int d3), .val (.ref b1), .val (.ref b11), .val (.ref b59), .val (.double ev_), .second, .val (.double la), .second, .val (.double (4636737291354636288 : UInt64)), .second, .val (.double (FP.ddiv ev_ la)), .second] [(.int (1 : Int32))])) _
          refine XS.istore X179.here hx rfl (hb hby at_190) rfl (l' := #[.val (.int c1), .val (.int c2), .val (.int c3), .val (.int d1), .val (.int d2), .val (.int d3), .val (.ref b1), .val (.ref b11), .val (.ref b59), .val (.double ev_), .second, .val (.double la), .second, .val (.double (4636737291354636288 : UInt64)), .second, .val (.int (1 : Int32)), .unset]) rfl ?_
          show Steps p.tables e below (T179.setTop (mkF m 192 #[.val (.int c1), .val (.int c2), .val (.int c3), .val (.int d1), .val (.int d2), .val (.int d3), .val (.ref b1), .val (.ref b11), .val (.ref b59), .val (.double ev_), .second, .val (.double la), .second, .val (.double (4636737291354636288 : UInt64)), .second, .val (.int (1 : Int32)), .unset] [])) _
          refine XS.aload X179.here hx rfl (hb hby at_192) rfl rfl ?_
          exact k)
      obtain ⟨av, hb53, hav⟩ := own_sum c1 c2 c3
      have hrem := own_rem hb53 (hev_.trans hav)
      obtain ⟨cq184, kq184, q184a, q184b, q184c⟩ := isOf hZ e179 p94_1
      obtain ⟨_, _, ⟨T184, L184, k184, n184⟩, -, X184, ⟨Lc184, hQ184, l184, y184, z184⟩, st184⟩ := X179.virtualBack hx (y := (⟨"com/example/graded_flow/gradedflow/microscopic/Entry", "endStep", "()V"⟩ : MethodName)) (z := (⟨"com/example/graded_flow/gradedflow/microscopic/Entry", "endStep", "()V"⟩ : MethodName)) hown (mvT hZ (hw _ (List.mem_of_getElem? (i := 185) rfl))) (mvT hZ (hw _ (List.mem_of_getElem? (i := 186) rfl))) (notFace_of_selects (args := #[]) (mvT hZ (hw _ (List.mem_of_getElem? (i := 188) rfl)))) (mvT hZ (hw _ (List.mem_of_getElem? (i := 188) rfl))) (mvT hZ (hw _ (List.mem_of_getElem? (i := 187) rfl))) (by decide) (backOf (W := 0) (rm22 l Z a0 hw [] b59 b11 ev_ la (0 : UInt64) T94.heap n0 Z97 p94_1 ge65 (Jvm.Free.Fl.dadd_out' (by unfold Jvm.Free.Fl.Fin64; decide +kernel) nE) (by rw [hrem]; exact nE) p94_2 p94_3 fE fU p94_6 p94_7) hZ (hw _ (List.mem_of_getElem? (i := 189) rfl)) (hw _ (List.mem_of_getElem? (i := 68) rfl)) (by decide) (by decide)) q184a q184c (g := (mkF m 194 #[.val (.int c1), .val (.int c2), .val (.int c3), .val (.int d1), .val (.int d2), .val (.int d3), .val (.ref b1), .val (.ref b11), .val (.ref b59), .val (.double ev_), .second, .val (.double la), .second, .val (.double (4636737291354636288 : UInt64)), .second, .val (.int (1 : Int32)), .unset] [(.ref b59)])) rfl (by rw [hml]; rfl) (Steps.refl _) (argsL := []) (rest := []) (lenOf pd_0 rfl) rfl (by show 2 * 0 + _ ≤ _; exact Nat.le_of_eq rfl) (hb hby at_194) (fun _ _ => ⟨rfl, e179, (by decide : 25 + 0 ≤ _), (by decide : 315 + 0 ≤ _)⟩)
      dsimp only [Pt.U, Pt.locs, Pt.cells, Pt.slots] at X184 l184 y184 z184 st184 hQ184
      subst l184 y184 z184
      obtain ⟨rfl, Nq184, K184, p184_1, p184_2⟩ := hQ184
      have N185 := Fr.app N180 Nq184
      have J186 : ∀ t, Steps p.tables e below (T184.setTop (mkF m 197 #[.val (.int c1), .val (.int c2), .val (.int c3), .val (.int d1), .val (.int d2), .val (.int d3), .val (.ref b1), .val (.ref b11), .val (.ref b59), .val (.double ev_), .second, .val (.double la), .second, .val (.double (4636737291354636288 : UInt64)), .second, .val (.int (1 : Int32)), .unset] [])) t → Steps p.tables e below (s₁.setTop (entryFrame m #[(.int c1), (.int c2), (.int c3), (.int d1), (.int d2), (.int d3)] maxLocals)) t := fun t k => J183 t (st184.trans k)
      have Z187 : n0 ≤ T184.heap.size := Nat.le_trans Z97 K184.1
      have kz := Nat.le_trans kz K184.1
      have J188 : ∀ t, Steps p.tables e below (T184.setTop (mkF m 199 #[.val (.int c1), .val (.int c2), .val (.int c3), .val (.int d1), .val (.int d2), .val (.int d3), .val (.ref b1), .val (.ref b11), .val (.ref b59), .val (.double ev_), .second, .val (.double la), .second, .val (.double (4636737291354636288 : UInt64)), .second, .val (.int (1 : Int32)), .unset] [(.ref b59)])) t → Steps p.tables e below (s₁.setTop (entryFrame m #[(.int c1), (.int c2), (.int c3), (.int d1), (.int d2), (.int d3)] maxLocals)) t := fun t k => J186 t (by
          show Steps p.tables e below (T184.setTop (mkF m 197 #[.val (.int c1), .val (.int c2), .val (.int c3), .val (.int d1), .val (.int d2), .val (.int d3), .val (.ref b1), .val (.ref b11), .val (.ref b59), .val (.double ev_), .second, .val (.double la), .second, .val (.double (4636737291354636288 : UInt64)), .second, .val (.int (1 : Int32)), .unset] [])) _
          refine XS.aload X184.here hx rfl (hb hby at_197) rfl rfl ?_
          exact k)
      obtain ⟨cq189, kq189, q189a, q189b, q189c⟩ := isOf hZ rfl p184_1
      obtain ⟨_, _, ⟨T189, L189, k189, n189⟩, -, X189, ⟨Lc189, hQ189, l189, y189, z189⟩, st189⟩ := X184.virtualBack hx (y := (⟨"com/example/graded_flow/gradedflow/microscopic/Entry", "remainder", "()D"⟩ : MethodName)) (z := (⟨"com/example/graded_flow/gradedflow/microscopic/Entry", "remainder", "()D"⟩ : MethodName)) hown (mvT hZ (hw _ (List.mem_of_getElem? (i := 194) rfl))) (mvT hZ (hw _ (List.mem_of_getElem? (i := 195) rfl))) (notFace_of_selects (args := #[]) (mvT hZ (hw _ (List.mem_of_getElem? (i := 197) rfl)))) (mvT hZ (hw _ (List.mem_of_getElem? (i := 197) rfl))) (mvT hZ (hw _ (List.mem_of_getElem? (i := 196) rfl))) (by decide) (backOf (W := 0) (rm23 l Z a0 hw [] b59 (FP.dsub (FP.dadd (0 : UInt64) ev_) (FP.i2d (0 : Int32))) T184.heap n0 Z187 p184_2) hZ (hw _ (List.mem_of_getElem? (i := 198) rfl)) (hw _ (List.mem_of_getElem? (i := 68) rfl)) (by decide) (by decide)) q189a q189c (g := (mkF m 199 #[.val (.int c1), .val (.int c2), .val (.int c3), .val (.int d1), .val (.int d2), .val (.int d3), .val (.ref b1), .val (.ref b11), .val (.ref b59), .val (.double ev_), .second, .val (.double la), .second, .val (.double (4636737291354636288 : UInt64)), .second, .val (.int (1 : Int32)), .unset] [(.ref b59)])) rfl (by rw [hml]; rfl) (Steps.refl _) (argsL := []) (rest := []) (lenOf pd_9 rfl) rfl (by show 2 * 0 + _ ≤ _; exact Nat.le_of_eq rfl) (hb hby at_199) (fun _ _ => ⟨rfl, rfl, (by decide : 25 + 0 ≤ _), (by decide : 315 + 0 ≤ _)⟩)
      dsimp only [Pt.U, Pt.locs, Pt.cells, Pt.slots] at X189 l189 y189 z189 st189 hQ189
      subst l189 y189 z189
      obtain ⟨rfl, Nq189, e189⟩ := hQ189
      have N190 := Fr.app N185 Nq189
      have J191 : ∀ t, Steps p.tables e below (T189.setTop (mkF m 202 #[.val (.int c1), .val (.int c2), .val (.int c3), .val (.int d1), .val (.int d2), .val (.int d3), .val (.ref b1), .val (.ref b11), .val (.ref b59), .val (.double ev_), .second, .val (.double la), .second, .val (.double (4636737291354636288 : UInt64)), .second, .val (.int (1 : Int32)), .unset] [(.double (FP.dsub (FP.dadd (0 : UInt64) ev_) (FP.i2d (0 : Int32))))])) t → Steps p.tables e below (s₁.setTop (entryFrame m #[(.int c1), (.int c2), (.int c3), (.int d1), (.int d2), (.int d3)] maxLocals)) t := fun t k => J188 t (st189.trans k)
      have J192 : ∀ t, Steps p.tables e below (T189.setTop (mkF m 202 #[.val (.int c1), .val (.int c2), .val (.int c3), .val (.int d1), .val (.int d2), .val (.int d3), .val (.ref b1), .val (.ref b11), .val (.ref b59), .val (.double ev_), .second, .val (.double la), .second, .val (.double (4636737291354636288 : UInt64)), .second, .val (.int (1 : Int32)), .unset] [(.double ev_)])) t → Steps p.tables e below (s₁.setTop (entryFrame m #[(.int c1), (.int c2), (.int c3), (.int d1), (.int d2), (.int d3)] maxLocals)) t := fun t k => J191 t (by rw [hrem]; exact k)
      have J193 : ∀ t, Steps p.tables e below (T189.setTop (mkF m 230 #[.val (.int c1), .val (.int c2), .val (.int c3), .val (.int d1), .val (.int d2), .val (.int d3), .val (.ref b1), .val (.ref b11), .val (.ref b59), .val (.double ev_), .second, .val (.double la), .second, .val (.double (4636737291354636288 : UInt64)), .second, .val (.int (1 : Int32)), .val (.int (1 : Int32))] [(.int (1 : Int32))])) t → Steps p.tables e below (s₁.setTop (entryFrame m #[(.int c1), (.int c2), (.int c3), (.int d1), (.int d2), (.int d3)] maxLocals)) t := fun t k => J192 t (by
          show Steps p.tables e below (T189.setTop (mkF m 202 #[.val (.int c1), .val (.int c2), .val (.int c3), .val (.int d1), .val (.int d2), .val (.int d3), .val (.ref b1), .val (.ref b11), .val (.ref b59), .val (.double ev_), .second, .val (.double la), .second, .val (.double (4636737291354636288 : UInt64)), .second, .val (.int (1 : Int32)), .unset] [(.double ev_)])) _
          refine XS.dload X189.here hx rfl (hb hby at_202) rfl ?_
          show Steps p.tables e below (T189.setTop (mkF m 204 #[.val (.int c1), .val (.int c2), .val (.int c3), .val (.int d1), .val (.int d2), .val (.int d3), .val (.ref b1), .val (.ref b11), .val (.ref b59), .val (.double ev_), .second, .val (.double la), .second, .val (.double (4636737291354636288 : UInt64)), .second, .val (.int (1 : Int32)), .unset] [(.double ev_), (.double ev_)])) _
          refine XS.dcmpS X189.here hx rfl (hb hby at_204) rfl rfl ?_
          show Steps p.tables e below (T189.setTop (mkF m 205 #[.val (.int c1), .val (.int c2), .val (.int c3), .val (.int d1), .val (.int d2), .val (.int d3), .val (.ref b1), .val (.ref b11), .val (.ref b59), .val (.double ev_), .second, .val (.double la), .second, .val (.double (4636737291354636288 : UInt64)), .second, .val (.int (1 : Int32)), .unset] [(.int (cmpValue (FP.dcmp ev_ ev_) .l))])) _
          refine XS.ifNo X189.here hx rfl (hb hby at_205) rfl ((if0 _ _).trans (teq (dcmpV_self nE .l)).2) ?_
          show Steps p.tables e below (T189.setTop (mkF m 208 #[.val (.int c1), .val (.int c2), .val (.int c3), .val (.int d1), .val (.int d2), .val (.int d3), .val (.ref b1), .val (.ref b11), .val (.ref b59), .val (.double ev_), .second, .val (.double la), .second, .val (.double (4636737291354636288 : UInt64)), .second, .val (.int (1 : Int32)), .unset] [])) _
          refine XS.iconst X189.here hx rfl (hb hby at_208) ?_
          show Steps p.tables e below (T189.setTop (mkF m 209 #[.val (.int c1), .val (.int c2), .val (.int c3), .val (.int d1), .val (.int d2), .val (.int d3), .val (.ref b1), .val (.ref b11), .val (.ref b59), .val (.double ev_), .second, .val (.double la), .second, .val (.double (4636737291354636288 : UInt64)), .second, .val (.int (1 : Int32)), .unset] [(.int (1 : Int32))])) _
          refine XS.goto X189.here hx rfl (pc0 := 209) (pc' := 213) rfl (hb hby at_209) (by decide) (by decide) ?_
          show Steps p.tables e below (T189.setTop (mkF m 213 #[.val (.int c1), .val (.int c2), .val (.int c3), .val (.int d1), .val (.int d2), .val (.int d3), .val (.ref b1), .val (.ref b11), .val (.ref b59), .val (.double ev_), .second, .val (.double la), .second, .val (.double (4636737291354636288 : UInt64)), .second, .val (.int (1 : Int32)), .unset] [(.int (1 : Int32))])) _
          refine XS.istore X189.here hx rfl (hb hby at_213) rfl (l' := #[.val (.int c1), .val (.int c2), .val (.int c3), .val (.int d1), .val (.int d2), .val (.int d3), .val (.ref b1), .val (.ref b11), .val (.ref b59), .val (.double ev_), .second, .val (.double la), .second, .val (.double (4636737291354636288 : UInt64)), .second, .val (.int (1 : Int32)), .val (.int (1 : Int32))]) rfl ?_
          show Steps p.tables e below (T189.setTop (mkF m 215 #[.val (.int c1), .val (.int c2), .val (.int c3), .val (.int d1), .val (.int d2), .val (.int d3), .val (.ref b1), .val (.ref b11), .val (.ref b59), .val (.double ev_), .second, .val (.double la), .second, .val (.double (4636737291354636288 : UInt64)), .second, .val (.int (1 : Int32)), .val (.int (1 : Int32))] [])) _
          refine XS.iload X189.here hx rfl (hb hby at_215) rfl ?_
          show Steps p.tables e below (T189.setTop (mkF m 217 #[.val (.int c1), .val (.int c2), .val (.int c3), .val (.int d1), .val (.int d2), .val (.int d3), .val (.ref b1), .val (.ref b11), .val (.ref b59), .val (.double ev_), .second, .val (.double la), .second, .val (.double (4636737291354636288 : UInt64)), .second, .val (.int (1 : Int32)), .val (.int (1 : Int32))] [(.int (1 : Int32))])) _
          refine XS.ifNo X189.here hx rfl (hb hby at_217) rfl ((if0 _ _).trans (feq (by decide)).1) ?_
          show Steps p.tables e below (T189.setTop (mkF m 220 #[.val (.int c1), .val (.int c2), .val (.int c3), .val (.int d1), .val (.int d2), .val (.int d3), .val (.ref b1), .val (.ref b11), .val (.ref b59), .val (.double ev_), .second, .val (.double la), .second, .val (.double (4636737291354636288 : UInt64)), .second, .val (.int (1 : Int32)), .val (.int (1 : Int32))] [])) _
          refine XS.iload X189.here hx rfl (hb hby at_220) rfl ?_
          show Steps p.tables e below (T189.setTop (mkF m 222 #[.val (.int c1), .val (.int c2), .val (.int c3), .val (.int d1), .val (.int d2), .val (.int d3), .val (.ref b1), .val (.ref b11), .val (.ref b59), .val (.double ev_), .second, .val (.double la), .second, .val (.double (4636737291354636288 : UInt64)), .second, .val (.int (1 : Int32)), .val (.int (1 : Int32))] [(.int (1 : Int32))])) _
          refine XS.ifNo X189.here hx rfl (hb hby at_222) rfl ((if0 _ _).trans (feq (by decide)).1) ?_
          show Steps p.tables e below (T189.setTop (mkF m 225 #[.val (.int c1), .val (.int c2), .val (.int c3), .val (.int d1), .val (.int d2), .val (.int d3), .val (.ref b1), .val (.ref b11), .val (.ref b59), .val (.double ev_), .second, .val (.double la), .second, .val (.double (4636737291354636288 : UInt64)), .second, .val (.int (1 : Int32)), .val (.int (1 : Int32))] [])) _
          refine XS.iconst X189.here hx rfl (hb hby at_225) ?_
          show Steps p.tables e below (T189.setTop (mkF m 226 #[.val (.int c1), .val (.int c2), .val (.int c3), .val (.int d1), .val (.int d2), .val (.int d3), .val (.ref b1), .val (.ref b11), .val (.ref b59), .val (.double ev_), .second, .val (.double la), .second, .val (.double (4636737291354636288 : UInt64)), .second, .val (.int (1 : Int32)), .val (.int (1 : Int32))] [(.int (1 : Int32))])) _
          refine XS.goto X189.here hx rfl (pc0 := 226) (pc' := 230) rfl (hb hby at_226) (by decide) (by decide) ?_
          exact k)
      obtain ⟨fs, hr, hrun, hended, hWW⟩ := X189.leaveW hSi (by rw [e189]; exact kz) (v := some (.int (1 : Int32))) (fun h => by rw [Bd.returns] at h; cases h)
      refine ⟨_, _, J193 _ ?_, hrun, hended, _, _, rfl, ?_, hWW.1, hWW.2.1, hWW.2.2.1, hWW.2.2.2.mono (by decide) (by decide)⟩
      · show Steps p.tables e below (T189.setTop (mkF m 230 #[.val (.int c1), .val (.int c2), .val (.int c3), .val (.int d1), .val (.int d2), .val (.int d3), .val (.ref b1), .val (.ref b11), .val (.ref b59), .val (.double ev_), .second, .val (.double la), .second, .val (.double (4636737291354636288 : UInt64)), .second, .val (.int (1 : Int32)), .val (.int (1 : Int32))] [(.int (1 : Int32))])) _
        exact retN X189 hx (t := .boolean) Bd.returns (by simp) (hb hby at_230) hr
      · show Q0 Z c1 c2 c3 d1 d2 d3 h0 n0 _ T189.heap _
        rw [e189]
        exact ⟨rfl, N190⟩
  ·
    have J194 : ∀ t, Steps p.tables e below (T94.setTop (mkF m 172 #[.val (.int c1), .val (.int c2), .val (.int c3), .val (.int d1), .val (.int d2), .val (.int d3), .val (.ref b1), .val (.ref b11), .val (.ref b59), .val (.double ev_), .second, .val (.double la), .second, .val (.double (4636737291354636288 : UInt64)), .second, .unset, .unset] [(.double FP.dconst0), (.ref b59)])) t → Steps p.tables e below (s₁.setTop (entryFrame m #[(.int c1), (.int c2), (.int c3), (.int d1), (.int d2), (.int d3)] maxLocals)) t := fun t k => J103 t (by
        show Steps p.tables e below (T94.setTop (mkF m 147 #[.val (.int c1), .val (.int c2), .val (.int c3), .val (.int d1), .val (.int d2), .val (.int d3), .val (.ref b1), .val (.ref b11), .val (.ref b59), .val (.double ev_), .second, .val (.double la), .second, .val (.double (4636737291354636288 : UInt64)), .second, .unset, .unset] [(.int (cmpValue (FP.dcmp la FP.dconst0) .l))])) _
        refine XS.ifYes X94.here hx rfl (pc0 := 147) (pc' := 169) rfl (hb hby at_147) rfl ((if0 _ _).trans (flt hl).2.2.2) (by decide) (by decide) ?_
        show Steps p.tables e below (T94.setTop (mkF m 169 #[.val (.int c1), .val (.int c2), .val (.int c3), .val (.int d1), .val (.int d2), .val (.int d3), .val (.ref b1), .val (.ref b11), .val (.ref b59), .val (.double ev_), .second, .val (.double la), .second, .val (.double (4636737291354636288 : UInt64)), .second, .unset, .unset] [])) _
        refine XS.aload X94.here hx rfl (hb hby at_169) rfl rfl ?_
        show Steps p.tables e below (T94.setTop (mkF m 171 #[.val (.int c1), .val (.int c2), .val (.int c3), .val (.int d1), .val (.int d2), .val (.int d3), .val (.ref b1), .val (.ref b11), .val (.ref b59), .val (.double ev_), .second, .val (.double la), .second, .val (.double (4636737291354636288 : UInt64)), .second, .unset, .unset] [(.ref b59)])) _
        refine XS.dconst0 X94.here hx rfl (hb hby at_171) rfl ?_
        exact k)
    have f195 := f68.keep K78
    have f196 := f195.keep K83
    have f197 := f196.keep K89
    have f198 := f197.keep K94
    have f199 := p54_3.ext E59
    have f200 := f199.keep K78 (ninS ne64 nin0)
    have f201 := f200.keep K83 (ninS ne64 nin0)
    have f202 := f201.keep K89 (ninS ne64 nin0)
    have f203 := f202.keep K94 (ninS ne64 nin0)
    have f204 := f69.keep K78 (ninS ne64 nin0)
    have f205 := f204.keep K83 (ninS ne64 nin0)
    have f206 := f205.keep K89 (ninS ne64 nin0)
    have f207 := f206.keep K94 (ninS ne64 nin0)
    have f208 := f61.ext E59
    have f209 := f208.keep K78
    have f210 := f209.keep K83
    have f211 := f210.keep K89
    have f212 := f211.keep K94
    have f213 := p6_3.ext E11
    have f214 := f213.ext E18
    have f215 := f214.ext E23
    have f216 := f215.ext E28
    have f217 := f216.keep K54 (ninS ne13 nin0)
    have f218 := f217.ext E59
    have f219 := f218.keep K78 (ninS ne63 nin0)
    have f220 := f219.keep K83 (ninS ne63 nin0)
    have f221 := f220.keep K89 (ninS ne63 nin0)
    have f222 := f221.keep K94 (ninS ne63 nin0)
    obtain ⟨cq223, kq223, q223a, q223b, q223c⟩ := isOf hZ rfl p94_1
    obtain ⟨_, _, ⟨T223, L223, k223, n223⟩, -, X223, ⟨Lc223, hQ223, l223, y223, z223⟩, st223⟩ := X94.virtualBack hx (y := (⟨"com/example/graded_flow/gradedflow/microscopic/Entry", "entrySpeed", "(D)D"⟩ : MethodName)) (z := (⟨"com/example/graded_flow/gradedflow/microscopic/Entry", "entrySpeed", "(D)D"⟩ : MethodName)) hown (mvT hZ (hw _ (List.mem_of_getElem? (i := 164) rfl))) (mvT hZ (hw _ (List.mem_of_getElem? (i := 165) rfl))) (notFace_of_selects (args := #[]) (mvT hZ (hw _ (List.mem_of_getElem? (i := 167) rfl)))) (mvT hZ (hw _ (List.mem_of_getElem? (i := 167) rfl))) (mvT hZ (hw _ (List.mem_of_getElem? (i := 166) rfl))) (by decide) (backOf (W := 0) (rm18 l Z a0 hw [] b59 b11 ev_ la (0 : UInt64) b1 T94.heap n0 Z97 p94_1 nE (fun q => absurd q hl) p94_2 p94_3 fE fU p94_6 p94_7 f198 f203 f207 f212 f222) hZ (hw _ (List.mem_of_getElem? (i := 168) rfl)) (hw _ (List.mem_of_getElem? (i := 68) rfl)) (by decide) (by decide)) q223a q223c (g := (mkF m 172 #[.val (.int c1), .val (.int c2), .val (.int c3), .val (.int d1), .val (.int d2), .val (.int d3), .val (.ref b1), .val (.ref b11), .val (.ref b59), .val (.double ev_), .second, .val (.double la), .second, .val (.double (4636737291354636288 : UInt64)), .second, .unset, .unset] [(.double FP.dconst0), (.ref b59)])) rfl (by rw [hml]; rfl) (Steps.refl _) (argsL := [(.double FP.dconst0)]) (rest := []) (lenOf pd_15 rfl) rfl (by show 2 * 0 + _ ≤ _; exact Nat.le_of_eq rfl) (hb hby at_172) (fun _ _ => ⟨rfl, rfl, (by decide : 25 + 0 ≤ _), (by decide : 315 + 0 ≤ _)⟩)
    dsimp only [Pt.U, Pt.locs, Pt.cells, Pt.slots] at X223 l223 y223 z223 st223 hQ223
    subst l223 y223 z223
    obtain ⟨rfl, Nq223, e223⟩ := hQ223
    have N224 := Fr.app N95 Nq223
    have J225 : ∀ t, Steps p.tables e below (T223.setTop (mkF m 175 #[.val (.int c1), .val (.int c2), .val (.int c3), .val (.int d1), .val (.int d2), .val (.int d3), .val (.ref b1), .val (.ref b11), .val (.ref b59), .val (.double ev_), .second, .val (.double la), .second, .val (.double (4636737291354636288 : UInt64)), .second, .unset, .unset] [(.double (FP.ddiv (own_sp ev_ la) own_36))])) t → Steps p.tables e below (s₁.setTop (entryFrame m #[(.int c1), (.int c2), (.int c3), (.int d1), (.int d2), (.int d3)] maxLocals)) t := fun t k => J194 t (st223.trans k)
    have J226 : ∀ t, Steps p.tables e below (T223.setTop (mkF m 175 #[.val (.int c1), .val (.int c2), .val (.int c3), .val (.int d1), .val (.int d2), .val (.int d3), .val (.ref b1), .val (.ref b11), .val (.ref b59), .val (.double ev_), .second, .val (.double la), .second, .val (.double (4636737291354636288 : UInt64)), .second, .unset, .unset] [(.double (FP.ddiv own_100 own_36))])) t → Steps p.tables e below (s₁.setTop (entryFrame m #[(.int c1), (.int c2), (.int c3), (.int d1), (.int d2), (.int d3)] maxLocals)) t := fun t k => J225 t (by rw [show own_sp ev_ la = own_100 from if_neg hl]; exact k)
    have J227 : ∀ t, Steps p.tables e below (T223.setTop (mkF m 194 #[.val (.int c1), .val (.int c2), .val (.int c3), .val (.int d1), .val (.int d2), .val (.int d3), .val (.ref b1), .val (.ref b11), .val (.ref b59), .val (.double ev_), .second, .val (.double la), .second, .val (.double (4636737291354636288 : UInt64)), .second, .val (.int (1 : Int32)), .unset] [(.ref b59)])) t → Steps p.tables e below (s₁.setTop (entryFrame m #[(.int c1), (.int c2), (.int c3), (.int d1), (.int d2), (.int d3)] maxLocals)) t := fun t k => J226 t (by
        show Steps p.tables e below (T223.setTop (mkF m 175 #[.val (.int c1), .val (.int c2), .val (.int c3), .val (.int d1), .val (.int d2), .val (.int d3), .val (.ref b1), .val (.ref b11), .val (.ref b59), .val (.double ev_), .second, .val (.double la), .second, .val (.double (4636737291354636288 : UInt64)), .second, .unset, .unset] [(.double (FP.ddiv own_100 own_36))])) _
        refine XS.dload X223.here hx rfl (hb hby at_175) rfl ?_
        show Steps p.tables e below (T223.setTop (mkF m 177 #[.val (.int c1), .val (.int c2), .val (.int c3), .val (.int d1), .val (.int d2), .val (.int d3), .val (.ref b1), .val (.ref b11), .val (.ref b59), .val (.double ev_), .second, .val (.double la), .second, .val (.double (4636737291354636288 : UInt64)), .second, .unset, .unset] [(.double (4636737291354636288 : UInt64)), (.double (FP.ddiv own_100 own_36))])) _
        refine X223.ldc2DoubleC hx hown (mvT hZ (hw _ (List.mem_of_getElem? (i := 184) rfl))) (g := (mkF m 177 #[.val (.int c1), .val (.int c2), .val (.int c3), .val (.int d1), .val (.int d2), .val (.int d3), .val (.ref b1), .val (.ref b11), .val (.ref b59), .val (.double ev_), .second, .val (.double la), .second, .val (.double (4636737291354636288 : UInt64)), .second, .unset, .unset] [(.double (4636737291354636288 : UInt64)), (.double (FP.ddiv own_100 own_36))])) rfl (hb hby at_177) _ ?_
        show Steps p.tables e below (T223.setTop (mkF m 180 #[.val (.int c1), .val (.int c2), .val (.int c3), .val (.int d1), .val (.int d2), .val (.int d3), .val (.ref b1), .val (.ref b11), .val (.ref b59), .val (.double ev_), .second, .val (.double la), .second, .val (.double (4636737291354636288 : UInt64)), .second, .unset, .unset] [(.double (4615288898129284301 : UInt64)), (.double (4636737291354636288 : UInt64)), (.double (FP.ddiv own_100 own_36))])) _
        refine XS.ddivS X223.here hx rfl (hb hby at_180) rfl (own_n3 own_n100) rfl ?_
        show Steps p.tables e below (T223.setTop (mkF m 181 #[.val (.int c1), .val (.int c2), .val (.int c3), .val (.int d1), .val (.int d2), .val (.int d3), .val (.ref b1), .val (.ref b11), .val (.ref b59), .val (.double ev_), .second, .val (.double la), .second, .val (.double (4636737291354636288 : UInt64)), .second, .unset, .unset] [(.double (FP.ddiv (4636737291354636288 : UInt64) (4615288898129284301 : UInt64))), (.double (FP.ddiv own_100 own_36))])) _
        refine XS.dcmpS X223.here hx rfl (hb hby at_181) rfl rfl ?_
        show Steps p.tables e below (T223.setTop (mkF m 182 #[.val (.int c1), .val (.int c2), .val (.int c3), .val (.int d1), .val (.int d2), .val (.int d3), .val (.ref b1), .val (.ref b11), .val (.ref b59), .val (.double ev_), .second, .val (.double la), .second, .val (.double (4636737291354636288 : UInt64)), .second, .unset, .unset] [(.int (cmpValue (FP.dcmp (FP.ddiv own_100 own_36) (FP.ddiv (4636737291354636288 : UInt64) (4615288898129284301 : UInt64))) .l))])) _
        refine XS.ifNo X223.here hx rfl (hb hby at_182) rfl ((if0 _ _).trans (teq (dcmpV_self (own_n3 own_n100) .l)).2) ?_
        show Steps p.tables e below (T223.setTop (mkF m 185 #[.val (.int c1), .val (.int c2), .val (.int c3), .val (.int d1), .val (.int d2), .val (.int d3), .val (.ref b1), .val (.ref b11), .val (.ref b59), .val (.double ev_), .second, .val (.double la), .second, .val (.double (4636737291354636288 : UInt64)), .second, .unset, .unset] [])) _
        refine XS.iconst X223.here hx rfl (hb hby at_185) ?_
        show Steps p.tables e below (T223.setTop (mkF m 186 #[.val (.int c1), .val (.int c2), .val (.int c3), .val (.int d1), .val (.int d2), .val (.int d3), .val (.ref b1), .val (.ref b11), .val (.ref b59), .val (.double ev_), .second, .val (.double la), .second, .val (.double (4636737291354636288 : UInt64)), .second, .unset, .unset] [(.int (1 : Int32))])) _
        refine XS.goto X223.here hx rfl (pc0 := 186) (pc' := 190) rfl (hb hby at_186) (by decide) (by decide) ?_
        show Steps p.tables e below (T223.setTop (mkF m 190 #[.val (.int c1), .val (.int c2), .val (.int c3), .val (.int d1), .val (.int d2), .val (.int d3), .val (.ref b1), .val (.ref b11), .val (.ref b59), .val (.double ev_), .second, .val (.double la), .second, .val (.double (4636737291354636288 : UInt64)), .second, .unset, .unset] [(.int (1 : Int32))])) _
        refine XS.istore X223.here hx rfl (hb hby at_190) rfl (l' := #[.val (.int c1), .val (.int c2), .val (.int c3), .val (.int d1), .val (.int d2), .val (.int d3), .val (.ref b1), .val (.ref b11), .val (.ref b59), .val (.double ev_), .second, .val (.double la), .second, .val (.double (4636737291354636288 : UInt64)), .second, .val (.int (1 : Int32)), .unset]) rfl ?_
        show Steps p.tables e below (T223.setTop (mkF m 192 #[.val (.int c1), .val (.int c2), .val (.int c3), .val (.int d1), .val (.int d2), .val (.int d3), .val (.ref b1), .val (.ref b11), .val (.ref b59), .val (.double ev_), .second, .val (.double la), .second, .val (.double (4636737291354636288 : UInt64)), .second, .val (.int (1 : Int32)), .unset] [])) _
        refine XS.aload X223.here hx rfl (hb hby at_192) rfl rfl ?_
        exact k)
    obtain ⟨av, hb53, hav⟩ := own_sum c1 c2 c3
    have hrem := own_rem hb53 (hev_.trans hav)
    obtain ⟨cq228, kq228, q228a, q228b, q228c⟩ := isOf hZ e223 p94_1
    obtain ⟨_, _, ⟨T228, L228, k228, n228⟩, -, X228, ⟨Lc228, hQ228, l228, y228, z228⟩, st228⟩ := X223.virtualBack hx (y := (⟨"com/example/graded_flow/gradedflow/microscopic/Entry", "endStep", "()V"⟩ : MethodName)) (z := (⟨"com/example/graded_flow/gradedflow/microscopic/Entry", "endStep", "()V"⟩ : MethodName)) hown (mvT hZ (hw _ (List.mem_of_getElem? (i := 185) rfl))) (mvT hZ (hw _ (List.mem_of_getElem? (i := 186) rfl))) (notFace_of_selects (args := #[]) (mvT hZ (hw _ (List.mem_of_getElem? (i := 188) rfl)))) (mvT hZ (hw _ (List.mem_of_getElem? (i := 188) rfl))) (mvT hZ (hw _ (List.mem_of_getElem? (i := 187) rfl))) (by decide) (backOf (W := 0) (rm22 l Z a0 hw [] b59 b11 ev_ la (0 : UInt64) T94.heap n0 Z97 p94_1 ge65 (Jvm.Free.Fl.dadd_out' (by unfold Jvm.Free.Fl.Fin64; decide +kernel) nE) (by rw [hrem]; exact nE) p94_2 p94_3 fE fU p94_6 p94_7) hZ (hw _ (List.mem_of_getElem? (i := 189) rfl)) (hw _ (List.mem_of_getElem? (i := 68) rfl)) (by decide) (by decide)) q228a q228c (g := (mkF m 194 #[.val (.int c1), .val (.int c2), .val (.int c3), .val (.int d1), .val (.int d2), .val (.int d3), .val (.ref b1), .val (.ref b11), .val (.ref b59), .val (.double ev_), .second, .val (.double la), .second, .val (.double (4636737291354636288 : UInt64)), .second, .val (.int (1 : Int32)), .unset] [(.ref b59)])) rfl (by rw [hml]; rfl) (Steps.refl _) (argsL := []) (rest := []) (lenOf pd_0 rfl) rfl (by show 2 * 0 + _ ≤ _; exact Nat.le_of_eq rfl) (hb hby at_194) (fun _ _ => ⟨rfl, e223, (by decide : 25 + 0 ≤ _), (by decide : 315 + 0 ≤ _)⟩)
    dsimp only [Pt.U, Pt.locs, Pt.cells, Pt.slots] at X228 l228 y228 z228 st228 hQ228
    subst l228 y228 z228
    obtain ⟨rfl, Nq228, K228, p228_1, p228_2⟩ := hQ228
    have N229 := Fr.app N224 Nq228
    have J230 : ∀ t, Steps p.tables e below (T228.setTop (mkF m 197 #[.val (.int c1), .val (.int c2), .val (.int c3), .val (.int d1), .val (.int d2), .val (.int d3), .val (.ref b1), .val (.ref b11), .val (.ref b59), .val (.double ev_), .second, .val (.double la), .second, .val (.double (4636737291354636288 : UInt64)), .second, .val (.int (1 : Int32)), .unset] [])) t → Steps p.tables e below (s₁.setTop (entryFrame m #[(.int c1), (.int c2), (.int c3), (.int d1), (.int d2), (.int d3)] maxLocals)) t := fun t k => J227 t (st228.trans k)
    have Z231 : n0 ≤ T228.heap.size := Nat.le_trans Z97 K228.1
    have kz := Nat.le_trans kz K228.1
    have J232 : ∀ t, Steps p.tables e below (T228.setTop (mkF m 199 #[.val (.int c1), .val (.int c2), .val (.int c3), .val (.int d1), .val (.int d2), .val (.int d3), .val (.ref b1), .val (.ref b11), .val (.ref b59), .val (.double ev_), .second, .val (.double la), .second, .val (.double (4636737291354636288 : UInt64)), .second, .val (.int (1 : Int32)), .unset] [(.ref b59)])) t → Steps p.tables e below (s₁.setTop (entryFrame m #[(.int c1), (.int c2), (.int c3), (.int d1), (.int d2), (.int d3)] maxLocals)) t := fun t k => J230 t (by
        show Steps p.tables e below (T228.setTop (mkF m 197 #[.val (.int c1), .val (.int c2), .val (.int c3), .val (.int d1), .val (.int d2), .val (.int d3), .val (.ref b1), .val (.ref b11), .val (.ref b59), .val (.double ev_), .second, .val (.double la), .second, .val (.double (4636737291354636288 : UInt64)), .second, .val (.int (1 : Int32)), .unset] [])) _
        refine XS.aload X228.here hx rfl (hb hby at_197) rfl rfl ?_
        exact k)
    obtain ⟨cq233, kq233, q233a, q233b, q233c⟩ := isOf hZ rfl p228_1
    obtain ⟨_, _, ⟨T233, L233, k233, n233⟩, -, X233, ⟨Lc233, hQ233, l233, y233, z233⟩, st233⟩ := X228.virtualBack hx (y := (⟨"com/example/graded_flow/gradedflow/microscopic/Entry", "remainder", "()D"⟩ : MethodName)) (z := (⟨"com/example/graded_flow/gradedflow/microscopic/Entry", "remainder", "()D"⟩ : MethodName)) hown (mvT hZ (hw _ (List.mem_of_getElem? (i := 194) rfl))) (mvT hZ (hw _ (List.mem_of_getElem? (i := 195) rfl))) (notFace_of_selects (args := #[]) (mvT hZ (hw _ (List.mem_of_getElem? (i := 197) rfl)))) (mvT hZ (hw _ (List.mem_of_getElem? (i := 197) rfl))) (mvT hZ (hw _ (List.mem_of_getElem? (i := 196) rfl))) (by decide) (backOf (W := 0) (rm23 l Z a0 hw [] b59 (FP.dsub (FP.dadd (0 : UInt64) ev_) (FP.i2d (0 : Int32))) T228.heap n0 Z231 p228_2) hZ (hw _ (List.mem_of_getElem? (i := 198) rfl)) (hw _ (List.mem_of_getElem? (i := 68) rfl)) (by decide) (by decide)) q233a q233c (g := (mkF m 199 #[.val (.int c1), .val (.int c2), .val (.int c3), .val (.int d1), .val (.int d2), .val (.int d3), .val (.ref b1), .val (.ref b11), .val (.ref b59), .val (.double ev_), .second, .val (.double la), .second, .val (.double (4636737291354636288 : UInt64)), .second, .val (.int (1 : Int32)), .unset] [(.ref b59)])) rfl (by rw [hml]; rfl) (Steps.refl _) (argsL := []) (rest := []) (lenOf pd_9 rfl) rfl (by show 2 * 0 + _ ≤ _; exact Nat.le_of_eq rfl) (hb hby at_199) (fun _ _ => ⟨rfl, rfl, (by decide : 25 + 0 ≤ _), (by decide : 315 + 0 ≤ _)⟩)
    dsimp only [Pt.U, Pt.locs, Pt.cells, Pt.slots] at X233 l233 y233 z233 st233 hQ233
    subst l233 y233 z233
    obtain ⟨rfl, Nq233, e233⟩ := hQ233
    have N234 := Fr.app N229 Nq233
    have J235 : ∀ t, Steps p.tables e below (T233.setTop (mkF m 202 #[.val (.int c1), .val (.int c2), .val (.int c3), .val (.int d1), .val (.int d2), .val (.int d3), .val (.ref b1), .val (.ref b11), .val (.ref b59), .val (.double ev_), .second, .val (.double la), .second, .val (.double (4636737291354636288 : UInt64)), .second, .val (.int (1 : Int32)), .unset] [(.double (FP.dsub (FP.dadd (0 : UInt64) ev_) (FP.i2d (0 : Int32))))])) t → Steps p.tables e below (s₁.setTop (entryFrame m #[(.int c1), (.int c2), (.int c3), (.int d1), (.int d2), (.int d3)] maxLocals)) t := fun t k => J232 t (st233.trans k)
    have J236 : ∀ t, Steps p.tables e below (T233.setTop (mkF m 202 #[.val (.int c1), .val (.int c2), .val (.int c3), .val (.int d1), .val (.int d2), .val (.int d3), .val (.ref b1), .val (.ref b11), .val (.ref b59), .val (.double ev_), .second, .val (.double la), .second, .val (.double (4636737291354636288 : UInt64)), .second, .val (.int (1 : Int32)), .unset] [(.double ev_)])) t → Steps p.tables e below (s₁.setTop (entryFrame m #[(.int c1), (.int c2), (.int c3), (.int d1), (.int d2), (.int d3)] maxLocals)) t := fun t k => J235 t (by rw [hrem]; exact k)
    have J237 : ∀ t, Steps p.tables e below (T233.setTop (mkF m 230 #[.val (.int c1), .val (.int c2), .val (.int c3), .val (.int d1), .val (.int d2), .val (.int d3), .val (.ref b1), .val (.ref b11), .val (.ref b59), .val (.double ev_), .second, .val (.double la), .second, .val (.double (4636737291354636288 : UInt64)), .second, .val (.int (1 : Int32)), .val (.int (1 : Int32))] [(.int (1 : Int32))])) t → Steps p.tables e below (s₁.setTop (entryFrame m #[(.int c1), (.int c2), (.int c3), (.int d1), (.int d2), (.int d3)] maxLocals)) t := fun t k => J236 t (by
        show Steps p.tables e below (T233.setTop (mkF m 202 #[.val (.int c1), .val (.int c2), .val (.int c3), .val (.int d1), .val (.int d2), .val (.int d3), .val (.ref b1), .val (.ref b11), .val (.ref b59), .val (.double ev_), .second, .val (.double la), .second, .val (.double (4636737291354636288 : UInt64)), .second, .val (.int (1 : Int32)), .unset] [(.double ev_)])) _
        refine XS.dload X233.here hx rfl (hb hby at_202) rfl ?_
        show Steps p.tables e below (T233.setTop (mkF m 204 #[.val (.int c1), .val (.int c2), .val (.int c3), .val (.int d1), .val (.int d2), .val (.int d3), .val (.ref b1), .val (.ref b11), .val (.ref b59), .val (.double ev_), .second, .val (.double la), .second, .val (.double (4636737291354636288 : UInt64)), .second, .val (.int (1 : Int32)), .unset] [(.double ev_), (.double ev_)])) _
        refine XS.dcmpS X233.here hx rfl (hb hby at_204) rfl rfl ?_
        show Steps p.tables e below (T233.setTop (mkF m 205 #[.val (.int c1), .val (.int c2), .val (.int c3), .val (.int d1), .val (.int d2), .val (.int d3), .val (.ref b1), .val (.ref b11), .val (.ref b59), .val (.double ev_), .second, .val (.double la), .second, .val (.double (4636737291354636288 : UInt64)), .second, .val (.int (1 : Int32)), .unset] [(.int (cmpValue (FP.dcmp ev_ ev_) .l))])) _
        refine XS.ifNo X233.here hx rfl (hb hby at_205) rfl ((if0 _ _).trans (teq (dcmpV_self nE .l)).2) ?_
        show Steps p.tables e below (T233.setTop (mkF m 208 #[.val (.int c1), .val (.int c2), .val (.int c3), .val (.int d1), .val (.int d2), .val (.int d3), .val (.ref b1), .val (.ref b11), .val (.ref b59), .val (.double ev_), .second, .val (.double la), .second, .val (.double (4636737291354636288 : UInt64)), .second, .val (.int (1 : Int32)), .unset] [])) _
        refine XS.iconst X233.here hx rfl (hb hby at_208) ?_
        show Steps p.tables e below (T233.setTop (mkF m 209 #[.val (.int c1), .val (.int c2), .val (.int c3), .val (.int d1), .val (.int d2), .val (.int d3), .val (.ref b1), .val (.ref b11), .val (.ref b59), .val (.double ev_), .second, .val (.double la), .second, .val (.double (4636737291354636288 : UInt64)), .second, .val (.int (1 : Int32)), .unset] [(.int (1 : Int32))])) _
        refine XS.goto X233.here hx rfl (pc0 := 209) (pc' := 213) rfl (hb hby at_209) (by decide) (by decide) ?_
        show Steps p.tables e below (T233.setTop (mkF m 213 #[.val (.int c1), .val (.int c2), .val (.int c3), .val (.int d1), .val (.int d2), .val (.int d3), .val (.ref b1), .val (.ref b11), .val (.ref b59), .val (.double ev_), .second, .val (.double la), .second, .val (.double (4636737291354636288 : UInt64)), .second, .val (.int (1 : Int32)), .unset] [(.int (1 : Int32))])) _
        refine XS.istore X233.here hx rfl (hb hby at_213) rfl (l' := #[.val (.int c1), .val (.int c2), .val (.int c3), .val (.int d1), .val (.int d2), .val (.int d3), .val (.ref b1), .val (.ref b11), .val (.ref b59), .val (.double ev_), .second, .val (.double la), .second, .val (.double (4636737291354636288 : UInt64)), .second, .val (.int (1 : Int32)), .val (.int (1 : Int32))]) rfl ?_
        show Steps p.tables e below (T233.setTop (mkF m 215 #[.val (.int c1), .val (.int c2), .val (.int c3), .val (.int d1), .val (.int d2), .val (.int d3), .val (.ref b1), .val (.ref b11), .val (.ref b59), .val (.double ev_), .second, .val (.double la), .second, .val (.double (4636737291354636288 : UInt64)), .second, .val (.int (1 : Int32)), .val (.int (1 : Int32))] [])) _
        refine XS.iload X233.here hx rfl (hb hby at_215) rfl ?_
        show Steps p.tables e below (T233.setTop (mkF m 217 #[.val (.int c1), .val (.int c2), .val (.int c3), .val (.int d1), .val (.int d2), .val (.int d3), .val (.ref b1), .val (.ref b11), .val (.ref b59), .val (.double ev_), .second, .val (.double la), .second, .val (.double (4636737291354636288 : UInt64)), .second, .val (.int (1 : Int32)), .val (.int (1 : Int32))] [(.int (1 : Int32))])) _
        refine XS.ifNo X233.here hx rfl (hb hby at_217) rfl ((if0 _ _).trans (feq (by decide)).1) ?_
        show Steps p.tables e below (T233.setTop (mkF m 220 #[.val (.int c1), .val (.int c2), .val (.int c3), .val (.int d1), .val (.int d2), .val (.int d3), .val (.ref b1), .val (.ref b11), .val (.ref b59), .val (.double ev_), .second, .val (.double la), .second, .val (.double (4636737291354636288 : UInt64)), .second, .val (.int (1 : Int32)), .val (.int (1 : Int32))] [])) _
        refine XS.iload X233.here hx rfl (hb hby at_220) rfl ?_
        show Steps p.tables e below (T233.setTop (mkF m 222 #[.val (.int c1), .val (.int c2), .val (.int c3), .val (.int d1), .val (.int d2), .val (.int d3), .val (.ref b1), .val (.ref b11), .val (.ref b59), .val (.double ev_), .second, .val (.double la), .second, .val (.double (4636737291354636288 : UInt64)), .second, .val (.int (1 : Int32)), .val (.int (1 : Int32))] [(.int (1 : Int32))])) _
        refine XS.ifNo X233.here hx rfl (hb hby at_222) rfl ((if0 _ _).trans (feq (by decide)).1) ?_
        show Steps p.tables e below (T233.setTop (mkF m 225 #[.val (.int c1), .val (.int c2), .val (.int c3), .val (.int d1), .val (.int d2), .val (.int d3), .val (.ref b1), .val (.ref b11), .val (.ref b59), .val (.double ev_), .second, .val (.double la), .second, .val (.double (4636737291354636288 : UInt64)), .second, .val (.int (1 : Int32)), .val (.int (1 : Int32))] [])) _
        refine XS.iconst X233.here hx rfl (hb hby at_225) ?_
        show Steps p.tables e below (T233.setTop (mkF m 226 #[.val (.int c1), .val (.int c2), .val (.int c3), .val (.int d1), .val (.int d2), .val (.int d3), .val (.ref b1), .val (.ref b11), .val (.ref b59), .val (.double ev_), .second, .val (.double la), .second, .val (.double (4636737291354636288 : UInt64)), .second, .val (.int (1 : Int32)), .val (.int (1 : Int32))] [(.int (1 : Int32))])) _
        refine XS.goto X233.here hx rfl (pc0 := 226) (pc' := 230) rfl (hb hby at_226) (by decide) (by decide) ?_
        exact k)
    obtain ⟨fs, hr, hrun, hended, hWW⟩ := X233.leaveW hSi (by rw [e233]; exact kz) (v := some (.int (1 : Int32))) (fun h => by rw [Bd.returns] at h; cases h)
    refine ⟨_, _, J237 _ ?_, hrun, hended, _, _, rfl, ?_, hWW.1, hWW.2.1, hWW.2.2.1, hWW.2.2.2.mono (by decide) (by decide)⟩
    · show Steps p.tables e below (T233.setTop (mkF m 230 #[.val (.int c1), .val (.int c2), .val (.int c3), .val (.int d1), .val (.int d2), .val (.int d3), .val (.ref b1), .val (.ref b11), .val (.ref b59), .val (.double ev_), .second, .val (.double la), .second, .val (.double (4636737291354636288 : UInt64)), .second, .val (.int (1 : Int32)), .val (.int (1 : Int32))] [(.int (1 : Int32))])) _
      exact retN X233 hx (t := .boolean) Bd.returns (by simp) (hb hby at_230) hr
    · show Q0 Z c1 c2 c3 d1 d2 d3 h0 n0 _ T233.heap _
      rw [e233]
      exact ⟨rfl, N234⟩
theorem own_em {s : State} {args : Array Value} (hf : Fit s) (w76 : (Jvm.Cond.initialized "java/util/ArrayList").before args s = true) (h2 : (Jvm.Cond.laysStatic "java/util/ArrayList" "DEFAULTCAPACITY_EMPTY_ELEMENTDATA" "[Ljava/lang/Object;").before args s = true) (h6 : (Jvm.Cond.arrayOf (Jvm.Term.static "java/util/ArrayList" "DEFAULTCAPACITY_EMPTY_ELEMENTDATA" "[Ljava/lang/Object;") (.object "java/lang/Object")).before args s = true) (h8 : (Jvm.Cond.eq (Jvm.Term.length (Jvm.Term.static "java/util/ArrayList" "DEFAULTCAPACITY_EMPTY_ELEMENTDATA" "[Ljava/lang/Object;")) (Jvm.Term.int 0)).before args s = true) : own_Em s := by
  obtain ⟨ca, ec⟩ := arr_v (Cond.before_iff.mp h6)
  obtain ⟨ccl, A⟩ := Arr.start ec (Cond.before_iff.mp h6)
  obtain ⟨hsz, hsize⟩ := IntBox.length_fwd h8 ec A.1 A.2.1 A.2.2
  have hs : ccl.slots.size = 0 := by
    have e : (ccl.slots.size.toInt32).toInt = ccl.slots.size := len_toInt (by omega)
    rw [hsize] at e
    have : ((0 : Int32)).toInt = 0 := by decide
    omega
  exact ⟨ca, ccl, Sta.start ec (Or.inr ⟨w76, h2⟩), A, hs⟩
set_option maxRecDepth 65536 in
set_option maxHeartbeats 40000000 in
theorem comes_1 {Post : Tables → Env → Array Value → State → Outcome → State → Prop} (hpost : ∀ tb e args s v u, (limb_1_1.after args s (.returned v) u = true ∧ limb_1_2.after args s (.returned v) u = true ∧ True) → ReturnedEndW s (.returned v) u (Jvm.fieldLocs frame_1_writes args s ++ Jvm.arrayLocs frame_1_arrays args s ++ Jvm.staticLocs frame_1_statics s) 40 9472 → Post tb e args s (.returned v) u) :
    ArmFor flags0 classFile x code maxLocals ret World_1 tables_1 room_1 Calls_1 rest_1 Pre_1 Post := by
  intro l hfl _ _ p e ha hc hk s m args below hf hA hF happ hP
  obtain ⟨hcalls, hrest, hpre⟩ := hP
  obtain ⟨-, -, -, hnamed, -, -, -, hat⟩ := (Spec.applies_iff hf).mp happ
  obtain ⟨hg, hn⟩ := and_e (Cond.before_iff.mp (show (Jvm.Cond.and given_1 narrow_1).before args s = true from hpre))
  obtain ⟨hcount, hg0⟩ := and_e hg
  obtain ⟨ga0, hg1⟩ := and_e hg0
  obtain ⟨ga1, hg2⟩ := and_e hg1
  obtain ⟨ga2, hg3⟩ := and_e hg2
  obtain ⟨ga3, hg4⟩ := and_e hg3
  obtain ⟨ga4, hg5⟩ := and_e hg4
  obtain ⟨w0, w1, w2, w3, w4, w5, rfl⟩ : ∃ w0 w1 w2 w3 w4 w5 : Value, args = #[w0, w1, w2, w3, w4, w5] := by
    have hs : args.size = 6 := by simpa [Cond.value, given_1] using hcount
    obtain ⟨L⟩ := args
    match L, hs with
    | [w0, w1, w2, w3, w4, w5], _ => exact ⟨w0, w1, w2, w3, w4, w5, rfl⟩
  have hw := fun d (hd : d ∈ tables_1) => atoms_spec (ws := Jvm.Cond.code x code maxLocals ret :: tables_1) hat d (List.mem_cons_of_mem _ hd)
  have hfit : Fit s := fun {y c} hc i hi => by
    obtain ⟨ha, rfl⟩ := Array.getElem?_eq_some_iff.mp hc
    have q := List.all_eq_true.mp ((Array.all_eq_true_iff_forall_mem.mp hF) _ (Array.getElem_mem ha)) i (List.mem_range.mpr hi)
    simpa [Array.getElem?_eq_getElem hi] using q
  obtain ⟨hsets, hown0⟩ := atoms_of _ (rest_1_c_eq ▸ (show rest_1_c.before _ s = true from hrest))
  obtain ⟨i0, ei0⟩ := is_v ga0
  obtain rfl : w0 = (.int i0) := Option.some.inj ei0
  obtain ⟨i1, ei1⟩ := is_v ga1
  obtain rfl : w1 = (.int i1) := Option.some.inj ei1
  obtain ⟨i2, ei2⟩ := is_v ga2
  obtain rfl : w2 = (.int i2) := Option.some.inj ei2
  obtain ⟨i3, ei3⟩ := is_v ga3
  obtain rfl : w3 = (.int i3) := Option.some.inj ei3
  obtain ⟨i4, ei4⟩ := is_v ga4
  obtain rfl : w4 = (.int i4) := Option.some.inj ei4
  obtain ⟨i5, ei5⟩ := is_v hg5
  obtain rfl : w5 = (.int i5) := Option.some.inj ei5
  obtain ⟨n, o, h1, h2, h3, _, L, rfl, ⟨rfl, N⟩, hq⟩ := rm0 l s _ hw tables_1 i0 i1 i2 i3 i4 i5 s.heap s.heap.size (Nat.le_refl _) (Old.start s) (own_em hfit (hw _ (List.mem_of_getElem? (i := 76) rfl)) (hsets _ (List.mem_of_getElem? (i := 2) rfl)) (hsets _ (List.mem_of_getElem? (i := 6) rfl)) (hsets _ (List.mem_of_getElem? (i := 8) rfl))) p e ha hc hk s m _ below hf ((Spec.applies_iff_loose hf).mp happ).1 ⟨rfl, State.Warmed39.refl s, rfl⟩ trivial
  refine ⟨n, _, h1, h2, h3, hpost _ _ _ _ _ _ ⟨Cond.after_iff.mpr rfl, Cond.after_iff.mpr (eq_i res_at (Term.int_eval (1)) rfl), trivial⟩ ⟨hq.1, hq.2.1, hq.2.2.1, (hq.2.2.2.sift fun y hy => Or.inr (N y hy)).mono (by decide) (by decide)⟩⟩
theorem main_1_1 : Claimed_1_1 := comes_1 fun _ _ _ _ _ _ h hF => ⟨h.1, hF⟩
theorem main_1_2 : Claimed_1_2 := comes_1 fun _ _ _ _ _ _ h hF => ⟨h.2.1, hF⟩
end Jvm.Pilot.@@N@@
namespace Jvm.Pilot.@@N@@
open Jvm Jvm.ClassFile Sem Op Lib Jvm.Free Jvm.Stand Jvm.Pilot.@@N@@.Jvm.D
/-! MADE BY PROGRAM (witnessworld.py) out of the Statement's table words and the real class files: 30 classes; the members and pool entries that the words name. The judged class is class 1, her method 1. -/
namespace start1
open Jvm.ClassFile
def u (s : String) : CpInfo := .utf8 (stringToUtf16 s)
/-- a pool by its gaps: so many unusable entries, then the entry; so many at the end -/
def gap : Nat → List CpInfo → List CpInfo
  | 0, r => r
  | n + 1, r => .unusable :: gap n r
def poolList (es : List (Nat × CpInfo)) (last : Nat) : List CpInfo := es.foldr (fun e r => gap e.1 (e.2 :: r)) (gap last [])
def pool (es : List (Nat × CpInfo)) (last : Nat) : Array CpInfo := ⟨poolList es last⟩
def fileOf (pool : Array CpInfo) (this : Nat) (attrs : Array Attribute := #[]) (ms : Array MethodInfo := #[]) (fl : Nat := 33) (sup : Nat := 0) (ifs : Array Nat := #[]) (fds : Array FieldInfo := #[]) : ClassFile where
  minorVersion := 0
  majorVersion := 65
  constantPool := pool
  accessFlags := fl
  thisClass := this
  superClass := sup
  interfaces := ifs
  fields := fds
  methods := ms
  attributes := attrs
def plain (name : String) (sup : Option ClassId) : Class where
  name := name
  kind := .ordinary
  loader := none
  accessFlags := 33
  super := sup
  interfaces := #[]
  cf := none
  fields := #[]
  methods := #[]
  instanceTypes := #[]
  staticTypes := #[]
  resolved := #[]
  callSites := []
  init := .initialized
  statics := none
  mirror := none

def pool0 : Array CpInfo := pool [(5, u "<init>"), (0, u "()V"), (1, .class_ 10), (1, u "java/lang/Object")] 113

def k0c0 : Code := { maxStack := 0, maxLocals := 1, code := object_method_1_code, exceptionTable := #[], attributes := #[] }
def k0m0 : Method := { name := "<init>", desc := "()V", sig := { parameters := [], returnType := none }, accessFlags := 1, code := some k0c0 }
/-- java/lang/Object -/
def k0 : Class := { plain "java/lang/Object" none with
  accessFlags := 33
  interfaces := #[]
  cf := some (fileOf pool0 8 #[] #[{ accessFlags := 1, nameIndex := 5, descriptorIndex := 6, attributes := #[] }] 33 0 #[] #[])
  fields := #[]
  methods := #[k0m0]
  instanceTypes := #[]
  staticTypes := #[]
  resolved := Array.replicate 124 none
  statics := none }

def pool1 : Array CpInfo := pool [(2, .class_ 4), (1, u "java/lang/Object"), (0, u "<init>"), (0, u "()V"), (0, .class_ 8), (0, u "com/example/graded_flow/gradedflow/network/TriangularDiagram"), (0, .double 4655631299166339072), (1, .double 4636737291354636288), (1, .double 4639481672377565184), (1, .methodref 7 16), (0, .nameAndType 5 17), (0, u "(DDD)V"), (0, .class_ 19), (0, u "com/example/graded_flow/gradedflow/network/Link"), (0, .string 21), (0, u "a"), (0, .string 23), (0, u "b"), (0, .string 25), (0, u "c"), (0, .double 4652007308841189376), (1, .methodref 18 29), (0, .nameAndType 5 30), (0, u "(Ljava/lang/String;Ljava/lang/String;Ljava/lang/String;DILcom/example/graded_flow/gradedflow/network/TriangularDiagram;Lcom/example/graded_flow/gradedflow/network/LinkModel;)V"), (0, .class_ 32), (0, u "com/example/graded_flow/gradedflow/microscopic/Entry"), (0, .double 4660134898793709568), (1, .methodref 31 36), (0, .nameAndType 5 37), (0, u "(Lcom/example/graded_flow/gradedflow/network/Link;D)V"), (0, .methodref 31 39), (0, .nameAndType 40 41), (0, u "takeIn"), (0, u "(DD)V"), (0, .methodref 31 43), (0, .nameAndType 44 45), (0, u "entrySpeed"), (0, u "(D)D"), (0, .double 4615288898129284301), (1, .methodref 31 49), (0, .nameAndType 50 6), (0, u "endStep"), (0, .methodref 31 52), (0, .nameAndType 53 54), (0, u "remainder"), (0, u "()D"), (0, .class_ 56), (0, u "com/example/graded_flow/gradedflow/microscopic/EntryTakeInPinLaw"), (2, u "law"), (0, u "(IIIIII)Z")] 3

def k1m0 : Method := { name := "<init>", desc := "()V", sig := { parameters := [], returnType := none }, accessFlags := 1, code := none }
def k1c1 : Code := { maxStack := 10, maxLocals := 17, code := code, exceptionTable := #[], attributes := #[] }
def k1m1 : Method := { name := "law", desc := "(IIIIII)Z", sig := { parameters := [.int, .int, .int, .int, .int, .int], returnType := some .boolean }, accessFlags := 9, code := some k1c1 }
/-- com/example/graded_flow/gradedflow/microscopic/EntryTakeInPinLaw -/
def k1 : Class := { plain "com/example/graded_flow/gradedflow/microscopic/EntryTakeInPinLaw" (some 0) with
  accessFlags := 49
  interfaces := #[]
  cf := some (fileOf pool1 55 #[] #[{ accessFlags := 1, nameIndex := 5, descriptorIndex := 6, attributes := #[] }, { accessFlags := 9, nameIndex := 59, descriptorIndex := 60, attributes := #[] }] 49 2 #[] #[])
  fields := #[]
  methods := #[k1m0, k1m1]
  instanceTypes := #[]
  staticTypes := #[]
  resolved := Array.replicate 64 none
  statics := none }

def pool2 : Array CpInfo := pool [(1, .methodref 2 3), (0, .class_ 4), (0, .nameAndType 5 6), (0, u "java/lang/Object"), (0, u "<init>"), (0, u "()V"), (0, .class_ 8), (0, u "java/lang/Record")] 13

def k2c0 : Code := { maxStack := 1, maxLocals := 1, code := jdk_30_method_1_code, exceptionTable := #[], attributes := #[] }
def k2m0 : Method := { name := "<init>", desc := "()V", sig := { parameters := [], returnType := none }, accessFlags := 4, code := some k2c0 }
/-- java/lang/Record -/
def k2 : Class := { plain "java/lang/Record" (some 0) with
  accessFlags := 1057
  interfaces := #[]
  cf := some (fileOf pool2 7 #[] #[{ accessFlags := 4, nameIndex := 5, descriptorIndex := 6, attributes := #[] }] 1057 2 #[] #[])
  fields := #[]
  methods := #[k2m0]
  instanceTypes := #[]
  staticTypes := #[]
  resolved := Array.replicate 22 none
  statics := none }

def pool3 : Array CpInfo := pool [(1, .methodref 2 3), (0, .class_ 4), (0, .nameAndType 5 6), (0, u "java/lang/Record"), (0, u "<init>"), (0, u "()V"), (0, .string 8), (0, u "capacity"), (0, .string 10), (0, u "veh/h/lane"), (0, .methodref 12 13), (0, .class_ 14), (0, .nameAndType 15 16), (0, u "com/example/graded_flow/gradedflow/network/TriangularDiagram"), (0, u "requirePositive"), (0, u "(Ljava/lang/String;DLjava/lang/String;)V"), (0, .string 18), (0, u "free speed"), (0, .string 20), (0, u "km/h"), (0, .string 22), (0, u "jam density"), (0, .string 24), (0, u "veh/km/lane"), (21, .fieldref 12 47), (0, .nameAndType 8 48), (0, u "D"), (0, .fieldref 12 50), (0, .nameAndType 51 48), (0, u "freeSpeed"), (0, .fieldref 12 53), (0, .nameAndType 54 48), (0, u "jamDensity"), (3, u "()D"), (22, .double 9218868437227405312), (15, u "(DDD)V")] 33

def k3c0 : Code := { maxStack := 10, maxLocals := 7, code := prog_30_method_1_code, exceptionTable := #[], attributes := #[] }
def k3m0 : Method := { name := "<init>", desc := "(DDD)V", sig := { parameters := [.double, .double, .double], returnType := none }, accessFlags := 1, code := some k3c0 }
def k3c1 : Code := { maxStack := 8, maxLocals := 4, code := prog_30_method_9_code, exceptionTable := #[], attributes := #[] }
def k3m1 : Method := { name := "requirePositive", desc := "(Ljava/lang/String;DLjava/lang/String;)V", sig := { parameters := [(.object "java/lang/String"), .double, (.object "java/lang/String")], returnType := none }, accessFlags := 10, code := some k3c1 }
def k3c2 : Code := { maxStack := 2, maxLocals := 1, code := prog_30_method_14_code, exceptionTable := #[], attributes := #[] }
def k3m2 : Method := { name := "freeSpeed", desc := "()D", sig := { parameters := [], returnType := some .double }, accessFlags := 1, code := some k3c2 }
/-- com/example/graded_flow/gradedflow/network/TriangularDiagram -/
def k3 : Class := { plain "com/example/graded_flow/gradedflow/network/TriangularDiagram" (some 2) with
  accessFlags := 49
  interfaces := #[]
  cf := some (fileOf pool3 12 #[] #[{ accessFlags := 1, nameIndex := 5, descriptorIndex := 97, attributes := #[] }, { accessFlags := 10, nameIndex := 15, descriptorIndex := 16, attributes := #[] }, { accessFlags := 1, nameIndex := 51, descriptorIndex := 58, attributes := #[] }] 49 2 #[] #[{ accessFlags := 18, nameIndex := 8, descriptorIndex := 48, attributes := #[] }, { accessFlags := 18, nameIndex := 51, descriptorIndex := 48, attributes := #[] }, { accessFlags := 18, nameIndex := 54, descriptorIndex := 48, attributes := #[] }])
  fields := #[{ name := "capacity", type := .double, accessFlags := 18, slot := 0, constantValue := 0 }, { name := "freeSpeed", type := .double, accessFlags := 18, slot := 1, constantValue := 0 }, { name := "jamDensity", type := .double, accessFlags := 18, slot := 2, constantValue := 0 }]
  methods := #[k3m0, k3m1, k3m2]
  instanceTypes := #[.double, .double, .double]
  staticTypes := #[]
  resolved := Array.replicate 131 none
  statics := none }

def pool4 : Array CpInfo := pool [(1, .class_ 2), (0, u "java/io/Serializable"), (0, .class_ 4), (0, u "java/lang/Object")] 2

/-- java/io/Serializable -/
def k4 : Class := { plain "java/io/Serializable" (some 0) with
  accessFlags := 1537
  interfaces := #[]
  cf := some (fileOf pool4 1 #[] #[] 1537 3 #[] #[])
  fields := #[]
  methods := #[]
  instanceTypes := #[]
  staticTypes := #[]
  resolved := Array.replicate 7 none
  statics := none }

def pool5 : Array CpInfo := pool [(1, .class_ 2), (0, u "java/lang/Comparable"), (0, .class_ 4), (0, u "java/lang/Object")] 7

/-- java/lang/Comparable -/
def k5 : Class := { plain "java/lang/Comparable" (some 0) with
  accessFlags := 1537
  interfaces := #[]
  cf := some (fileOf pool5 1 #[] #[] 1537 3 #[] #[])
  fields := #[]
  methods := #[]
  instanceTypes := #[]
  staticTypes := #[]
  resolved := Array.replicate 12 none
  statics := none }

def pool6 : Array CpInfo := pool [(2, .class_ 4), (1, u "java/lang/CharSequence"), (42, .class_ 48), (0, u "java/lang/CharSequence$1CodePointIterator"), (10, .class_ 60), (0, u "java/lang/CharSequence$1CharIterator"), (5, .class_ 67), (0, u "java/lang/Object")] 63

/-- java/lang/CharSequence -/
def k6 : Class := { plain "java/lang/CharSequence" (some 0) with
  accessFlags := 1537
  interfaces := #[]
  cf := some (fileOf pool6 2 #[.nestMembers #[47, 59]] #[] 1537 66 #[] #[])
  fields := #[]
  methods := #[]
  instanceTypes := #[]
  staticTypes := #[]
  resolved := Array.replicate 131 none
  statics := none }

def pool7 : Array CpInfo := pool [(1, .class_ 2), (0, u "java/lang/constant/Constable"), (0, .class_ 4), (0, u "java/lang/Object")] 6

/-- java/lang/constant/Constable -/
def k7 : Class := { plain "java/lang/constant/Constable" (some 0) with
  accessFlags := 1537
  interfaces := #[]
  cf := some (fileOf pool7 1 #[] #[] 1537 3 #[] #[])
  fields := #[]
  methods := #[]
  instanceTypes := #[]
  staticTypes := #[]
  resolved := Array.replicate 11 none
  statics := none }

def pool8 : Array CpInfo := pool [(1, .class_ 2), (0, u "java/lang/constant/ConstantDesc"), (0, .class_ 4), (0, u "java/lang/Object")] 32

/-- java/lang/constant/ConstantDesc -/
def k8 : Class := { plain "java/lang/constant/ConstantDesc" (some 0) with
  accessFlags := 1537
  interfaces := #[]
  cf := some (fileOf pool8 1 #[] #[] 1537 3 #[] #[])
  fields := #[]
  methods := #[]
  instanceTypes := #[]
  staticTypes := #[]
  resolved := Array.replicate 37 none
  statics := none }

def pool9 : Array CpInfo := pool [(2, .class_ 4), (1, u "java/lang/Object"), (0, u "<init>"), (0, u "()V"), (3, .class_ 12), (1, u "java/lang/String"), (0, u "value"), (0, u "[B"), (2, u "coder"), (0, u "B"), (2, u "hash"), (0, u "I"), (2, u "hashIsZero"), (0, u "Z"), (13, u "COMPACT_STRINGS"), (534, .class_ 576), (0, u "java/lang/CharSequence"), (22, u "CASE_INSENSITIVE_ORDER"), (0, u "Ljava/util/Comparator;"), (500, u "serialPersistentFields"), (0, u "[Ljava/io/ObjectStreamField;"), (0, .class_ 1104), (0, u "java/lang/String$CaseInsensitiveComparator"), (1, .class_ 1107), (0, u "java/io/Serializable"), (0, .class_ 1109), (0, u "java/lang/Comparable"), (0, .class_ 1111), (0, u "java/lang/constant/Constable"), (0, .class_ 1113), (0, u "java/lang/constant/ConstantDesc"), (2, u "serialVersionUID"), (0, u "J"), (3, u "REPL"), (0, u "C"), (2, u "LATIN1"), (1, u "UTF16")] 323

def k9m0 : Method := { name := "<init>", desc := "()V", sig := { parameters := [], returnType := none }, accessFlags := 1, code := none }
/-- java/lang/String -/
def k9 : Class := { plain "java/lang/String" (some 0) with
  accessFlags := 49
  interfaces := #[4, 5, 6, 7, 8]
  cf := some (fileOf pool9 10 #[.nestMembers #[1103]] #[{ accessFlags := 1, nameIndex := 5, descriptorIndex := 6, attributes := #[] }] 49 2 #[1106, 1108, 575, 1110, 1112] #[{ accessFlags := 18, nameIndex := 13, descriptorIndex := 14, attributes := #[] }, { accessFlags := 18, nameIndex := 17, descriptorIndex := 18, attributes := #[] }, { accessFlags := 2, nameIndex := 21, descriptorIndex := 22, attributes := #[] }, { accessFlags := 2, nameIndex := 25, descriptorIndex := 26, attributes := #[] }, { accessFlags := 26, nameIndex := 1116, descriptorIndex := 1117, attributes := #[] }, { accessFlags := 24, nameIndex := 40, descriptorIndex := 26, attributes := #[] }, { accessFlags := 26, nameIndex := 1101, descriptorIndex := 1102, attributes := #[] }, { accessFlags := 26, nameIndex := 1121, descriptorIndex := 1122, attributes := #[] }, { accessFlags := 25, nameIndex := 599, descriptorIndex := 600, attributes := #[] }, { accessFlags := 24, nameIndex := 1125, descriptorIndex := 18, attributes := #[] }, { accessFlags := 24, nameIndex := 1127, descriptorIndex := 18, attributes := #[] }])
  fields := #[{ name := "value", type := (.array .byte), accessFlags := 18, slot := 0, constantValue := 0 }, { name := "coder", type := .byte, accessFlags := 18, slot := 1, constantValue := 0 }, { name := "hash", type := .int, accessFlags := 2, slot := 2, constantValue := 0 }, { name := "hashIsZero", type := .boolean, accessFlags := 2, slot := 3, constantValue := 0 }, { name := "serialVersionUID", type := .long, accessFlags := 26, slot := 0, constantValue := 0 }, { name := "COMPACT_STRINGS", type := .boolean, accessFlags := 24, slot := 1, constantValue := 0 }, { name := "serialPersistentFields", type := (.array (.object "java/io/ObjectStreamField")), accessFlags := 26, slot := 2, constantValue := 0 }, { name := "REPL", type := .char, accessFlags := 26, slot := 3, constantValue := 0 }, { name := "CASE_INSENSITIVE_ORDER", type := (.object "java/util/Comparator"), accessFlags := 25, slot := 4, constantValue := 0 }, { name := "LATIN1", type := .byte, accessFlags := 24, slot := 5, constantValue := 0 }, { name := "UTF16", type := .byte, accessFlags := 24, slot := 6, constantValue := 0 }]
  methods := #[k9m0]
  instanceTypes := #[(.array .byte), .byte, .int, .boolean]
  staticTypes := #[.long, .boolean, (.array (.object "java/io/ObjectStreamField")), .char, (.object "java/util/Comparator"), .byte, .byte]
  resolved := Array.replicate 1451 none
  statics := none }

def pool10 : Array CpInfo := pool [(1, .methodref 2 3), (0, .class_ 4), (0, .nameAndType 5 6), (0, u "java/lang/Record"), (0, u "<init>"), (0, u "()V"), (2, .double 9218868437227405312), (27, .fieldref 38 39), (0, .class_ 40), (0, .nameAndType 41 42), (0, u "com/example/graded_flow/gradedflow/network/Link"), (0, u "id"), (0, u "Ljava/lang/String;"), (0, .fieldref 38 44), (0, .nameAndType 45 42), (0, u "from"), (0, .fieldref 38 47), (0, .nameAndType 48 42), (0, u "to"), (0, .fieldref 38 50), (0, .nameAndType 51 52), (0, u "length"), (0, u "D"), (0, .fieldref 38 54), (0, .nameAndType 55 56), (0, u "lanes"), (0, u "I"), (0, .fieldref 38 58), (0, .nameAndType 59 60), (0, u "road"), (0, u "Lcom/example/graded_flow/gradedflow/network/TriangularDiagram;"), (0, .fieldref 38 62), (0, .nameAndType 63 64), (0, u "model"), (0, u "Lcom/example/graded_flow/gradedflow/network/LinkModel;"), (46, u "CELL_LENGTH_TOLERANCE"), (3, u "(Ljava/lang/String;Ljava/lang/String;Ljava/lang/String;DILcom/example/graded_flow/gradedflow/network/TriangularDiagram;Lcom/example/graded_flow/gradedflow/network/LinkModel;)V"), (9, u "()I"), (1, u "()Lcom/example/graded_flow/gradedflow/network/TriangularDiagram;")] 27

def k10c0 : Code := { maxStack := 8, maxLocals := 9, code := prog_25_method_1_code, exceptionTable := #[], attributes := #[] }
def k10m0 : Method := { name := "<init>", desc := "(Ljava/lang/String;Ljava/lang/String;Ljava/lang/String;DILcom/example/graded_flow/gradedflow/network/TriangularDiagram;Lcom/example/graded_flow/gradedflow/network/LinkModel;)V", sig := { parameters := [(.object "java/lang/String"), (.object "java/lang/String"), (.object "java/lang/String"), .double, .int, (.object "com/example/graded_flow/gradedflow/network/TriangularDiagram"), (.object "com/example/graded_flow/gradedflow/network/LinkModel")], returnType := none }, accessFlags := 1, code := some k10c0 }
def k10c1 : Code := { maxStack := 1, maxLocals := 1, code := prog_25_method_11_code, exceptionTable := #[], attributes := #[] }
def k10m1 : Method := { name := "lanes", desc := "()I", sig := { parameters := [], returnType := some .int }, accessFlags := 1, code := some k10c1 }
def k10c2 : Code := { maxStack := 1, maxLocals := 1, code := prog_25_method_12_code, exceptionTable := #[], attributes := #[] }
def k10m2 : Method := { name := "road", desc := "()Lcom/example/graded_flow/gradedflow/network/TriangularDiagram;", sig := { parameters := [], returnType := some (.object "com/example/graded_flow/gradedflow/network/TriangularDiagram") }, accessFlags := 1, code := some k10c2 }
/-- com/example/graded_flow/gradedflow/network/Link -/
def k10 : Class := { plain "com/example/graded_flow/gradedflow/network/Link" (some 2) with
  accessFlags := 49
  interfaces := #[]
  cf := some (fileOf pool10 38 #[] #[{ accessFlags := 1, nameIndex := 5, descriptorIndex := 115, attributes := #[] }, { accessFlags := 1, nameIndex := 55, descriptorIndex := 125, attributes := #[] }, { accessFlags := 1, nameIndex := 59, descriptorIndex := 127, attributes := #[] }] 49 2 #[] #[{ accessFlags := 18, nameIndex := 41, descriptorIndex := 42, attributes := #[] }, { accessFlags := 18, nameIndex := 45, descriptorIndex := 42, attributes := #[] }, { accessFlags := 18, nameIndex := 48, descriptorIndex := 42, attributes := #[] }, { accessFlags := 18, nameIndex := 51, descriptorIndex := 52, attributes := #[] }, { accessFlags := 18, nameIndex := 55, descriptorIndex := 56, attributes := #[] }, { accessFlags := 18, nameIndex := 59, descriptorIndex := 60, attributes := #[] }, { accessFlags := 18, nameIndex := 63, descriptorIndex := 64, attributes := #[] }, { accessFlags := 26, nameIndex := 111, descriptorIndex := 52, attributes := #[] }])
  fields := #[{ name := "id", type := (.object "java/lang/String"), accessFlags := 18, slot := 0, constantValue := 0 }, { name := "from", type := (.object "java/lang/String"), accessFlags := 18, slot := 1, constantValue := 0 }, { name := "to", type := (.object "java/lang/String"), accessFlags := 18, slot := 2, constantValue := 0 }, { name := "length", type := .double, accessFlags := 18, slot := 3, constantValue := 0 }, { name := "lanes", type := .int, accessFlags := 18, slot := 4, constantValue := 0 }, { name := "road", type := (.object "com/example/graded_flow/gradedflow/network/TriangularDiagram"), accessFlags := 18, slot := 5, constantValue := 0 }, { name := "model", type := (.object "com/example/graded_flow/gradedflow/network/LinkModel"), accessFlags := 18, slot := 6, constantValue := 0 }, { name := "CELL_LENGTH_TOLERANCE", type := .double, accessFlags := 26, slot := 0, constantValue := 0 }]
  methods := #[k10m0, k10m1, k10m2]
  instanceTypes := #[(.object "java/lang/String"), (.object "java/lang/String"), (.object "java/lang/String"), .double, .int, (.object "com/example/graded_flow/gradedflow/network/TriangularDiagram"), (.object "com/example/graded_flow/gradedflow/network/LinkModel")]
  staticTypes := #[.double]
  resolved := Array.replicate 155 none
  statics := none }

def pool11 : Array CpInfo := pool [(1, .methodref 2 3), (0, .class_ 4), (0, .nameAndType 5 6), (0, u "java/lang/Object"), (0, u "<init>"), (0, u "()V"), (0, .class_ 8), (0, u "java/util/ArrayList"), (0, .methodref 7 3), (0, .fieldref 11 12), (0, .class_ 13), (0, .nameAndType 14 15), (0, u "com/example/graded_flow/gradedflow/microscopic/Entry"), (0, u "waiting"), (0, u "Ljava/util/List;"), (0, .fieldref 11 17), (0, .nameAndType 18 19), (0, u "link"), (0, u "Lcom/example/graded_flow/gradedflow/network/Link;"), (0, .fieldref 11 21), (0, .nameAndType 22 23), (0, u "macroStep"), (0, u "D"), (0, .methodref 25 26), (0, .class_ 27), (0, .nameAndType 28 29), (0, u "com/example/graded_flow/gradedflow/network/Link"), (0, u "lanes"), (0, u "()I"), (0, .class_ 31), (0, u "java/util/ArrayDeque"), (0, .methodref 30 3), (0, .interfaceMethodref 34 35), (0, .class_ 36), (0, .nameAndType 37 38), (0, u "java/util/List"), (0, u "add"), (0, u "(Ljava/lang/Object;)Z"), (2, u "waitingVehicles"), (0, u "I"), (0, .fieldref 11 44), (0, .nameAndType 45 23), (0, u "remainder"), (0, .methodref 25 47), (0, .nameAndType 48 49), (0, u "road"), (0, u "()Lcom/example/graded_flow/gradedflow/network/TriangularDiagram;"), (1, .class_ 53), (1, u "com/example/graded_flow/gradedflow/network/TriangularDiagram"), (1, u "(D)D"), (0, .double 4660134898793709568), (1, .fieldref 11 59), (0, .nameAndType 60 23), (0, u "entering"), (0, .fieldref 11 62), (0, .nameAndType 63 23), (0, u "upstreamDensity"), (1, .class_ 67), (1, u "java/lang/Math"), (1, .fieldref 11 70), (0, .nameAndType 71 42), (0, u "created"), (0, .methodref 51 73), (0, .nameAndType 74 75), (0, u "freeSpeed"), (0, u "()D"), (0, .methodref 65 77), (0, .nameAndType 78 79), (0, u "min"), (0, u "(DD)D"), (0, .double 4615288898129284301), (51, u "(Lcom/example/graded_flow/gradedflow/network/Link;D)V"), (4, u "takeIn"), (0, u "(DD)V"), (2, u "entrySpeed"), (6, u "endStep")] 2

def k11c0 : Code := { maxStack := 3, maxLocals := 5, code := prog_8_method_1_code, exceptionTable := #[], attributes := #[] }
def k11m0 : Method := { name := "<init>", desc := "(Lcom/example/graded_flow/gradedflow/network/Link;D)V", sig := { parameters := [(.object "com/example/graded_flow/gradedflow/network/Link"), .double], returnType := none }, accessFlags := 0, code := some k11c0 }
def k11c1 : Code := { maxStack := 2, maxLocals := 1, code := prog_8_method_3_code, exceptionTable := #[], attributes := #[] }
def k11m1 : Method := { name := "remainder", desc := "()D", sig := { parameters := [], returnType := some .double }, accessFlags := 0, code := some k11c1 }
def k11c2 : Code := { maxStack := 5, maxLocals := 5, code := prog_8_method_5_code, exceptionTable := #[], attributes := #[] }
def k11m2 : Method := { name := "takeIn", desc := "(DD)V", sig := { parameters := [.double, .double], returnType := none }, accessFlags := 0, code := some k11c2 }
def k11c3 : Code := { maxStack := 6, maxLocals := 9, code := prog_8_method_7_code, exceptionTable := #[], attributes := #[] }
def k11m3 : Method := { name := "entrySpeed", desc := "(D)D", sig := { parameters := [.double], returnType := some .double }, accessFlags := 0, code := some k11c3 }
def k11c4 : Code := { maxStack := 5, maxLocals := 1, code := prog_8_method_14_code, exceptionTable := #[], attributes := #[] }
def k11m4 : Method := { name := "endStep", desc := "()V", sig := { parameters := [], returnType := none }, accessFlags := 0, code := some k11c4 }
/-- com/example/graded_flow/gradedflow/microscopic/Entry -/
def k11 : Class := { plain "com/example/graded_flow/gradedflow/microscopic/Entry" (some 0) with
  accessFlags := 32
  interfaces := #[]
  cf := some (fileOf pool11 11 #[] #[{ accessFlags := 0, nameIndex := 5, descriptorIndex := 132, attributes := #[] }, { accessFlags := 0, nameIndex := 45, descriptorIndex := 75, attributes := #[] }, { accessFlags := 0, nameIndex := 137, descriptorIndex := 138, attributes := #[] }, { accessFlags := 0, nameIndex := 141, descriptorIndex := 55, attributes := #[] }, { accessFlags := 0, nameIndex := 148, descriptorIndex := 6, attributes := #[] }] 32 2 #[] #[{ accessFlags := 18, nameIndex := 18, descriptorIndex := 19, attributes := #[] }, { accessFlags := 18, nameIndex := 22, descriptorIndex := 23, attributes := #[] }, { accessFlags := 18, nameIndex := 14, descriptorIndex := 15, attributes := #[] }, { accessFlags := 2, nameIndex := 41, descriptorIndex := 42, attributes := #[] }, { accessFlags := 2, nameIndex := 45, descriptorIndex := 23, attributes := #[] }, { accessFlags := 2, nameIndex := 60, descriptorIndex := 23, attributes := #[] }, { accessFlags := 2, nameIndex := 63, descriptorIndex := 23, attributes := #[] }, { accessFlags := 2, nameIndex := 71, descriptorIndex := 42, attributes := #[] }])
  fields := #[{ name := "link", type := (.object "com/example/graded_flow/gradedflow/network/Link"), accessFlags := 18, slot := 0, constantValue := 0 }, { name := "macroStep", type := .double, accessFlags := 18, slot := 1, constantValue := 0 }, { name := "waiting", type := (.object "java/util/List"), accessFlags := 18, slot := 2, constantValue := 0 }, { name := "waitingVehicles", type := .int, accessFlags := 2, slot := 3, constantValue := 0 }, { name := "remainder", type := .double, accessFlags := 2, slot := 4, constantValue := 0 }, { name := "entering", type := .double, accessFlags := 2, slot := 5, constantValue := 0 }, { name := "upstreamDensity", type := .double, accessFlags := 2, slot := 6, constantValue := 0 }, { name := "created", type := .int, accessFlags := 2, slot := 7, constantValue := 0 }]
  methods := #[k11m0, k11m1, k11m2, k11m3, k11m4]
  instanceTypes := #[(.object "com/example/graded_flow/gradedflow/network/Link"), .double, (.object "java/util/List"), .int, .double, .double, .double, .int]
  staticTypes := #[]
  resolved := Array.replicate 151 none
  statics := none }

def pool12 : Array CpInfo := pool [(8, .class_ 10), (1, u "java/lang/Iterable"), (24, .class_ 36), (0, u "java/lang/Object")] 25

/-- java/lang/Iterable -/
def k12 : Class := { plain "java/lang/Iterable" (some 0) with
  accessFlags := 1537
  interfaces := #[]
  cf := some (fileOf pool12 8 #[] #[] 1537 35 #[] #[])
  fields := #[]
  methods := #[]
  instanceTypes := #[]
  staticTypes := #[]
  resolved := Array.replicate 62 none
  statics := none }

def pool13 : Array CpInfo := pool [(10, .class_ 12), (1, u "java/util/Collection"), (47, .class_ 61), (0, u "java/lang/Object"), (0, .class_ 63), (0, u "java/lang/Iterable")] 51

/-- java/util/Collection -/
def k13 : Class := { plain "java/util/Collection" (some 0) with
  accessFlags := 1537
  interfaces := #[12]
  cf := some (fileOf pool13 10 #[] #[] 1537 60 #[62] #[])
  fields := #[]
  methods := #[]
  instanceTypes := #[]
  staticTypes := #[]
  resolved := Array.replicate 115 none
  statics := none }

def pool14 : Array CpInfo := pool [(1, .methodref 2 3), (0, .class_ 4), (0, .nameAndType 5 6), (0, u "java/lang/Object"), (0, u "<init>"), (0, u "()V"), (1, .class_ 10), (1, u "java/util/AbstractCollection"), (66, .class_ 78), (0, u "java/util/Collection")] 81

def k14c0 : Code := { maxStack := 1, maxLocals := 1, code := jdk_22_method_1_code, exceptionTable := #[], attributes := #[] }
def k14m0 : Method := { name := "<init>", desc := "()V", sig := { parameters := [], returnType := none }, accessFlags := 4, code := some k14c0 }
/-- java/util/AbstractCollection -/
def k14 : Class := { plain "java/util/AbstractCollection" (some 0) with
  accessFlags := 1057
  interfaces := #[13]
  cf := some (fileOf pool14 8 #[] #[{ accessFlags := 4, nameIndex := 5, descriptorIndex := 6, attributes := #[] }] 1057 2 #[77] #[])
  fields := #[]
  methods := #[k14m0]
  instanceTypes := #[]
  staticTypes := #[]
  resolved := Array.replicate 160 none
  statics := none }

def pool15 : Array CpInfo := pool [(8, .class_ 10), (1, u "java/util/SequencedCollection"), (15, .class_ 27), (0, u "java/lang/Object"), (0, .class_ 29), (0, u "java/util/Collection")] 27

/-- java/util/SequencedCollection -/
def k15 : Class := { plain "java/util/SequencedCollection" (some 0) with
  accessFlags := 1537
  interfaces := #[13]
  cf := some (fileOf pool15 8 #[] #[] 1537 26 #[28] #[])
  fields := #[]
  methods := #[]
  instanceTypes := #[]
  staticTypes := #[]
  resolved := Array.replicate 57 none
  statics := none }

def pool16 : Array CpInfo := pool [(8, .class_ 10), (1, u "java/util/List"), (49, u "add"), (3, u "(Ljava/lang/Object;)Z"), (38, .class_ 104), (0, u "java/lang/Object"), (15, .class_ 121), (0, u "java/util/SequencedCollection")] 129

def k16m0 : Method := { name := "add", desc := "(Ljava/lang/Object;)Z", sig := { parameters := [(.object "java/lang/Object")], returnType := some .boolean }, accessFlags := 1025, code := none }
/-- java/util/List -/
def k16 : Class := { plain "java/util/List" (some 0) with
  accessFlags := 1537
  interfaces := #[15]
  cf := some (fileOf pool16 8 #[] #[{ accessFlags := 1025, nameIndex := 60, descriptorIndex := 64, attributes := #[] }] 1537 103 #[120] #[])
  fields := #[]
  methods := #[k16m0]
  instanceTypes := #[]
  staticTypes := #[]
  resolved := Array.replicate 251 none
  statics := none }

def pool17 : Array CpInfo := pool [(1, .methodref 2 3), (0, .class_ 4), (0, .nameAndType 5 6), (0, u "java/util/AbstractCollection"), (0, u "<init>"), (0, u "()V"), (0, .fieldref 8 9), (0, .class_ 10), (0, .nameAndType 11 12), (0, u "java/util/AbstractList"), (0, u "modCount"), (0, u "I"), (64, .class_ 78), (0, u "java/util/AbstractList$Itr"), (3, .class_ 83), (0, u "java/util/AbstractList$ListItr"), (9, .class_ 94), (0, u "java/util/AbstractList$RandomAccessSubList"), (3, .class_ 99), (0, u "java/util/AbstractList$SubList"), (33, .class_ 134), (0, u "java/util/List"), (73, .class_ 209), (0, u "java/util/AbstractList$SubList$1"), (0, .class_ 211), (0, u "java/util/AbstractList$RandomAccessSpliterator")] 6

def k17c0 : Code := { maxStack := 2, maxLocals := 1, code := jdk_39_method_1_code, exceptionTable := #[], attributes := #[] }
def k17m0 : Method := { name := "<init>", desc := "()V", sig := { parameters := [], returnType := none }, accessFlags := 4, code := some k17c0 }
/-- java/util/AbstractList -/
def k17 : Class := { plain "java/util/AbstractList" (some 14) with
  accessFlags := 1057
  interfaces := #[16]
  cf := some (fileOf pool17 8 #[.nestMembers #[93, 98, 208, 210, 82, 77]] #[{ accessFlags := 4, nameIndex := 5, descriptorIndex := 6, attributes := #[] }] 1057 2 #[133] #[{ accessFlags := 132, nameIndex := 11, descriptorIndex := 12, attributes := #[] }])
  fields := #[{ name := "modCount", type := .int, accessFlags := 132, slot := 0, constantValue := 0 }]
  methods := #[k17m0]
  instanceTypes := #[.int]
  staticTypes := #[]
  resolved := Array.replicate 218 none
  statics := none }

def pool18 : Array CpInfo := pool [(1, .class_ 2), (0, u "java/util/RandomAccess"), (0, .class_ 4), (0, u "java/lang/Object")] 2

/-- java/util/RandomAccess -/
def k18 : Class := { plain "java/util/RandomAccess" (some 0) with
  accessFlags := 1537
  interfaces := #[]
  cf := some (fileOf pool18 1 #[] #[] 1537 3 #[] #[])
  fields := #[]
  methods := #[]
  instanceTypes := #[]
  staticTypes := #[]
  resolved := Array.replicate 7 none
  statics := none }

def pool19 : Array CpInfo := pool [(1, .class_ 2), (0, u "java/lang/Cloneable"), (0, .class_ 4), (0, u "java/lang/Object")] 2

/-- java/lang/Cloneable -/
def k19 : Class := { plain "java/lang/Cloneable" (some 0) with
  accessFlags := 1537
  interfaces := #[]
  cf := some (fileOf pool19 1 #[] #[] 1537 3 #[] #[])
  fields := #[]
  methods := #[]
  instanceTypes := #[]
  staticTypes := #[]
  resolved := Array.replicate 7 none
  statics := none }

def pool20 : Array CpInfo := pool [(1, .methodref 2 3), (0, .class_ 4), (0, .nameAndType 5 6), (0, u "java/util/AbstractList"), (0, u "<init>"), (0, u "()V"), (0, .class_ 8), (0, u "java/lang/Object"), (0, .fieldref 10 11), (0, .class_ 12), (0, .nameAndType 13 14), (0, u "java/util/ArrayList"), (0, u "elementData"), (0, u "[Ljava/lang/Object;"), (2, u "EMPTY_ELEMENTDATA"), (21, .fieldref 10 40), (0, .nameAndType 41 14), (0, u "DEFAULTCAPACITY_EMPTY_ELEMENTDATA"), (5, u "()[Ljava/lang/Object;"), (0, .fieldref 10 49), (0, .nameAndType 50 51), (0, u "size"), (0, u "I"), (11, .fieldref 10 64), (0, .nameAndType 65 51), (0, u "modCount"), (3, .methodref 10 70), (0, .nameAndType 71 72), (0, u "grow"), (0, u "(I)[Ljava/lang/Object;"), (6, .methodref 80 81), (0, .class_ 82), (0, .nameAndType 83 84), (0, u "java/lang/Math"), (0, u "max"), (0, u "(II)I"), (11, u "(Ljava/lang/Object;)Z"), (32, .methodref 10 130), (0, .nameAndType 71 47), (0, .methodref 10 132), (0, .nameAndType 133 134), (0, u "add"), (0, u "(Ljava/lang/Object;[Ljava/lang/Object;I)V"), (13, .class_ 149), (0, u "java/util/List"), (112, .class_ 263), (0, u "java/util/ArrayList$ListItr"), (3, .class_ 268), (0, u "java/util/ArrayList$Itr"), (7, .class_ 277), (0, u "java/util/ArrayList$SubList"), (12, .class_ 291), (0, u "java/util/ArrayList$ArrayListSpliterator"), (37, .class_ 330), (0, u "java/util/RandomAccess"), (0, .class_ 332), (0, u "java/lang/Cloneable"), (0, .class_ 334), (0, u "java/io/Serializable"), (0, u "serialVersionUID"), (0, u "J"), (3, u "DEFAULT_CAPACITY"), (159, .class_ 501), (0, u "java/util/ArrayList$SubList$2"), (0, .class_ 503), (0, u "java/util/ArrayList$SubList$1")] 5

def k20c0 : Code := { maxStack := 2, maxLocals := 1, code := jdk_38_method_2_code, exceptionTable := #[], attributes := #[] }
def k20m0 : Method := { name := "<init>", desc := "()V", sig := { parameters := [], returnType := none }, accessFlags := 1, code := some k20c0 }
def k20c1 : Code := { maxStack := 4, maxLocals := 4, code := jdk_38_method_6_code, exceptionTable := #[], attributes := #[] }
def k20m1 : Method := { name := "grow", desc := "(I)[Ljava/lang/Object;", sig := { parameters := [.int], returnType := some (.array (.object "java/lang/Object")) }, accessFlags := 2, code := some k20c1 }
def k20c2 : Code := { maxStack := 3, maxLocals := 1, code := jdk_38_method_7_code, exceptionTable := #[], attributes := #[] }
def k20m2 : Method := { name := "grow", desc := "()[Ljava/lang/Object;", sig := { parameters := [], returnType := some (.array (.object "java/lang/Object")) }, accessFlags := 2, code := some k20c2 }
def k20c3 : Code := { maxStack := 3, maxLocals := 4, code := jdk_38_method_24_code, exceptionTable := #[], attributes := #[] }
def k20m3 : Method := { name := "add", desc := "(Ljava/lang/Object;[Ljava/lang/Object;I)V", sig := { parameters := [(.object "java/lang/Object"), (.array (.object "java/lang/Object")), .int], returnType := none }, accessFlags := 2, code := some k20c3 }
def k20c4 : Code := { maxStack := 4, maxLocals := 2, code := jdk_38_method_25_code, exceptionTable := #[], attributes := #[] }
def k20m4 : Method := { name := "add", desc := "(Ljava/lang/Object;)Z", sig := { parameters := [(.object "java/lang/Object")], returnType := some .boolean }, accessFlags := 1, code := some k20c4 }
/-- java/util/ArrayList -/
def k20 : Class := { plain "java/util/ArrayList" (some 17) with
  accessFlags := 33
  interfaces := #[16, 18, 19, 4]
  cf := some (fileOf pool20 10 #[.nestMembers #[290, 276, 500, 502, 262, 267]] #[{ accessFlags := 1, nameIndex := 5, descriptorIndex := 6, attributes := #[] }, { accessFlags := 2, nameIndex := 71, descriptorIndex := 72, attributes := #[] }, { accessFlags := 2, nameIndex := 71, descriptorIndex := 47, attributes := #[] }, { accessFlags := 2, nameIndex := 133, descriptorIndex := 134, attributes := #[] }, { accessFlags := 1, nameIndex := 133, descriptorIndex := 96, attributes := #[] }] 33 2 #[148, 329, 331, 333] #[{ accessFlags := 26, nameIndex := 335, descriptorIndex := 336, attributes := #[] }, { accessFlags := 26, nameIndex := 340, descriptorIndex := 51, attributes := #[] }, { accessFlags := 26, nameIndex := 17, descriptorIndex := 14, attributes := #[] }, { accessFlags := 26, nameIndex := 41, descriptorIndex := 14, attributes := #[] }, { accessFlags := 128, nameIndex := 13, descriptorIndex := 14, attributes := #[] }, { accessFlags := 2, nameIndex := 50, descriptorIndex := 51, attributes := #[] }])
  fields := #[{ name := "serialVersionUID", type := .long, accessFlags := 26, slot := 0, constantValue := 0 }, { name := "DEFAULT_CAPACITY", type := .int, accessFlags := 26, slot := 1, constantValue := 0 }, { name := "EMPTY_ELEMENTDATA", type := (.array (.object "java/lang/Object")), accessFlags := 26, slot := 2, constantValue := 0 }, { name := "DEFAULTCAPACITY_EMPTY_ELEMENTDATA", type := (.array (.object "java/lang/Object")), accessFlags := 26, slot := 3, constantValue := 0 }, { name := "elementData", type := (.array (.object "java/lang/Object")), accessFlags := 128, slot := 1, constantValue := 0 }, { name := "size", type := .int, accessFlags := 2, slot := 2, constantValue := 0 }]
  methods := #[k20m0, k20m1, k20m2, k20m3, k20m4]
  instanceTypes := #[.int, (.array (.object "java/lang/Object")), .int]
  staticTypes := #[.long, .int, (.array (.object "java/lang/Object")), (.array (.object "java/lang/Object"))]
  resolved := Array.replicate 509 none
  statics := some 0 }

def pool21 : Array CpInfo := pool [(1, .class_ 2), (0, u "java/util/Queue"), (0, .class_ 4), (0, u "java/lang/Object"), (0, .class_ 6), (0, u "java/util/Collection")] 14

/-- java/util/Queue -/
def k21 : Class := { plain "java/util/Queue" (some 0) with
  accessFlags := 1537
  interfaces := #[13]
  cf := some (fileOf pool21 1 #[] #[] 1537 3 #[5] #[])
  fields := #[]
  methods := #[]
  instanceTypes := #[]
  staticTypes := #[]
  resolved := Array.replicate 21 none
  statics := none }

def pool22 : Array CpInfo := pool [(8, .class_ 10), (1, u "java/util/Deque"), (2, .class_ 14), (0, u "java/lang/Object"), (0, .class_ 16), (0, u "java/util/Queue"), (0, .class_ 18), (0, u "java/util/SequencedCollection")] 51

/-- java/util/Deque -/
def k22 : Class := { plain "java/util/Deque" (some 0) with
  accessFlags := 1537
  interfaces := #[21, 15]
  cf := some (fileOf pool22 8 #[] #[] 1537 13 #[15, 17] #[])
  fields := #[]
  methods := #[]
  instanceTypes := #[]
  staticTypes := #[]
  resolved := Array.replicate 70 none
  statics := none }

def pool23 : Array CpInfo := pool [(3, .fieldref 4 5), (0, .class_ 6), (0, .nameAndType 7 8), (0, u "java/util/ArrayDeque"), (0, u "elements"), (0, u "[Ljava/lang/Object;"), (13, u "tail"), (0, u "I"), (2, u "head"), (12, u "<init>"), (2, .methodref 43 44), (0, .class_ 45), (0, .nameAndType 39 46), (0, u "java/util/AbstractCollection"), (0, u "()V"), (0, .class_ 48), (0, u "java/lang/Object"), (82, .class_ 132), (0, u "java/util/ArrayDeque$DeqIterator"), (3, .class_ 137), (0, u "java/util/ArrayDeque$DescendingIterator"), (1, .class_ 140), (0, u "java/util/ArrayDeque$DeqSpliterator"), (137, .class_ 279), (0, u "java/util/Deque"), (0, .class_ 281), (0, u "java/lang/Cloneable"), (0, .class_ 283), (0, u "java/io/Serializable"), (0, u "MAX_ARRAY_SIZE"), (1, u "serialVersionUID"), (0, u "J")] 150

def k23c0 : Code := { maxStack := 2, maxLocals := 1, code := jdk_21_method_3_code, exceptionTable := #[], attributes := #[] }
def k23m0 : Method := { name := "<init>", desc := "()V", sig := { parameters := [], returnType := none }, accessFlags := 1, code := some k23c0 }
/-- java/util/ArrayDeque -/
def k23 : Class := { plain "java/util/ArrayDeque" (some 14) with
  accessFlags := 33
  interfaces := #[22, 19, 4]
  cf := some (fileOf pool23 4 #[.nestMembers #[139, 136, 131]] #[{ accessFlags := 1, nameIndex := 39, descriptorIndex := 46, attributes := #[] }] 33 43 #[278, 280, 282] #[{ accessFlags := 128, nameIndex := 7, descriptorIndex := 8, attributes := #[] }, { accessFlags := 128, nameIndex := 26, descriptorIndex := 23, attributes := #[] }, { accessFlags := 128, nameIndex := 22, descriptorIndex := 23, attributes := #[] }, { accessFlags := 26, nameIndex := 284, descriptorIndex := 23, attributes := #[] }, { accessFlags := 26, nameIndex := 286, descriptorIndex := 287, attributes := #[] }])
  fields := #[{ name := "elements", type := (.array (.object "java/lang/Object")), accessFlags := 128, slot := 0, constantValue := 0 }, { name := "head", type := .int, accessFlags := 128, slot := 1, constantValue := 0 }, { name := "tail", type := .int, accessFlags := 128, slot := 2, constantValue := 0 }, { name := "MAX_ARRAY_SIZE", type := .int, accessFlags := 26, slot := 0, constantValue := 0 }, { name := "serialVersionUID", type := .long, accessFlags := 26, slot := 1, constantValue := 0 }]
  methods := #[k23m0]
  instanceTypes := #[(.array (.object "java/lang/Object")), .int, .int]
  staticTypes := #[.int, .long]
  resolved := Array.replicate 438 none
  statics := none }

def pool24 : Array CpInfo := pool [(1, .class_ 2), (0, u "java/lang/Math"), (1, .class_ 6), (1, u "java/lang/Object"), (0, u "<init>"), (0, u "()V"), (43, u "(DD)D"), (45, .class_ 100), (1, u "java/lang/Math$RandomNumberGeneratorHolder"), (71, u "negativeZeroFloatBits"), (0, u "J"), (2, u "negativeZeroDoubleBits"), (21, u "max"), (2, u "min"), (43, u "$assertionsDisabled"), (0, u "Z"), (88, u "(II)I"), (2, u "twoToTheDoubleScaleDown"), (0, u "D"), (4, u "twoToTheDoubleScaleUp"), (9, u "E"), (3, u "PI"), (2, u "TAU"), (2, u "DEGREES_TO_RADIANS"), (0, u "RADIANS_TO_DEGREES")] 94

def k24m0 : Method := { name := "<init>", desc := "()V", sig := { parameters := [], returnType := none }, accessFlags := 2, code := none }
def k24c1 : Code := { maxStack := 2, maxLocals := 2, code := jdk_29_method_65_code, exceptionTable := #[], attributes := #[] }
def k24m1 : Method := { name := "max", desc := "(II)I", sig := { parameters := [.int, .int], returnType := some .int }, accessFlags := 9, code := some k24c1 }
def k24c2 : Code := { maxStack := 4, maxLocals := 4, code := jdk_29_method_72_code, exceptionTable := #[], attributes := #[] }
def k24m2 : Method := { name := "min", desc := "(DD)D", sig := { parameters := [.double, .double], returnType := some .double }, accessFlags := 9, code := some k24c2 }
/-- java/lang/Math -/
def k24 : Class := { plain "java/lang/Math" (some 0) with
  accessFlags := 49
  interfaces := #[]
  cf := some (fileOf pool24 1 #[.nestMembers #[98]] #[{ accessFlags := 2, nameIndex := 7, descriptorIndex := 8, attributes := #[] }, { accessFlags := 9, nameIndex := 198, descriptorIndex := 335, attributes := #[] }, { accessFlags := 9, nameIndex := 201, descriptorIndex := 52, attributes := #[] }] 49 4 #[] #[{ accessFlags := 25, nameIndex := 354, descriptorIndex := 339, attributes := #[] }, { accessFlags := 25, nameIndex := 358, descriptorIndex := 339, attributes := #[] }, { accessFlags := 25, nameIndex := 361, descriptorIndex := 339, attributes := #[] }, { accessFlags := 26, nameIndex := 364, descriptorIndex := 339, attributes := #[] }, { accessFlags := 26, nameIndex := 365, descriptorIndex := 339, attributes := #[] }, { accessFlags := 26, nameIndex := 172, descriptorIndex := 173, attributes := #[] }, { accessFlags := 26, nameIndex := 176, descriptorIndex := 173, attributes := #[] }, { accessFlags := 8, nameIndex := 344, descriptorIndex := 339, attributes := #[] }, { accessFlags := 8, nameIndex := 338, descriptorIndex := 339, attributes := #[] }, { accessFlags := 4120, nameIndex := 245, descriptorIndex := 246, attributes := #[] }])
  fields := #[{ name := "E", type := .double, accessFlags := 25, slot := 0, constantValue := 0 }, { name := "PI", type := .double, accessFlags := 25, slot := 1, constantValue := 0 }, { name := "TAU", type := .double, accessFlags := 25, slot := 2, constantValue := 0 }, { name := "DEGREES_TO_RADIANS", type := .double, accessFlags := 26, slot := 3, constantValue := 0 }, { name := "RADIANS_TO_DEGREES", type := .double, accessFlags := 26, slot := 4, constantValue := 0 }, { name := "negativeZeroFloatBits", type := .long, accessFlags := 26, slot := 5, constantValue := 0 }, { name := "negativeZeroDoubleBits", type := .long, accessFlags := 26, slot := 6, constantValue := 0 }, { name := "twoToTheDoubleScaleUp", type := .double, accessFlags := 8, slot := 7, constantValue := 0 }, { name := "twoToTheDoubleScaleDown", type := .double, accessFlags := 8, slot := 8, constantValue := 0 }, { name := "$assertionsDisabled", type := .boolean, accessFlags := 4120, slot := 9, constantValue := 0 }]
  methods := #[k24m0, k24m1, k24m2]
  instanceTypes := #[]
  staticTypes := #[.double, .double, .double, .double, .double, .long, .long, .double, .double, .boolean]
  resolved := Array.replicate 460 none
  statics := none }

/-- the primitive byte -/
def k25 : Class := { plain "byte" none with kind := .primitive 'B', accessFlags := 0x411 }
/-- [B -/
def k26 : Class := { plain "[B" (some 0) with kind := .array 25 .byte, interfaces := #[19, 4], accessFlags := 1041 }

/-- the primitive int -/
def k27 : Class := { plain "int" none with kind := .primitive 'I', accessFlags := 0x411 }
/-- [I -/
def k28 : Class := { plain "[I" (some 0) with kind := .array 27 .int, interfaces := #[19, 4], accessFlags := 1041 }

/-- [Ljava/lang/Object; -/
def k29 : Class := { plain "[Ljava/lang/Object;" (some 0) with kind := .array 0 (.object "java/lang/Object"), interfaces := #[19, 4], accessFlags := 1041 }

def heap : Heap := #[{ cls := 20, slots := #[.long 0, .int 0, .ref 1, .ref 2], vm := .statics 20 },
  { cls := 29, slots := #[], vm := .none },
  { cls := 29, slots := #[], vm := .none }]
def classes : Array Class := #[k0, k1, k2, k3, k4, k5, k6, k7, k8, k9, k10, k11, k12, k13, k14, k15, k16, k17, k18, k19, k20, k21, k22, k23, k24, k25, k26, k27, k28, k29]
def interned : List (Array UInt16 × Addr) := []
def slotsUsed : Nat := 4
def theMethod : MethodId := ⟨1, 1⟩
def args0 : Array Value := #[.int 5, .int 6, .int 5, .int 6, .int 5, .int 5]
def aboutOver (below : List Frame) : State where
  vm := { classes := classes, interned := interned.toArray }
  heap := heap
  slotsUsed := slotsUsed
  threads := #[{ frames := .invoking theMethod args0 :: below }]
def below0 : List Frame := [.native { method := ⟨0, 0⟩, args := #[] }]
def about1 : State := aboutOver below0
def p0 : Program := .bare "" "" ""
def e0 : Env := launch0.env 0 0 0
theorem w_frames : about1.frames = Frame.invoking theMethod args0 :: below0 := rfl
set_option maxRecDepth 65536 in
theorem w_args : argsFit about1.vm theMethod args0 = true := by decide +kernel
set_option maxRecDepth 65536 in
theorem w_heap : heapFits about1 = true := by decide +kernel
set_option maxRecDepth 65536 in
theorem w_runnable : about1.curStatus? = some .runnable := by decide +kernel
set_option maxRecDepth 65536 in
theorem w_alone : about1.alone = true := by decide +kernel
set_option maxRecDepth 65536 in
theorem w_named : about1.methodNamed? x = some theMethod := by decide +kernel
set_option maxRecDepth 65536 in
theorem w_hears : about1.hears theMethod below0 = true := by decide +kernel
set_option maxRecDepth 65536 in
theorem w_ripe : about1.ripe theMethod args0 below0 = true := by decide +kernel
theorem w_running : about1.status = .running := rfl
set_option maxRecDepth 65536 in
theorem w_room : about1.hasRoom e0.platform room_1 = true :=
  launch0.hasRoom_least _ room_1 (by decide +kernel) (by decide +kernel) (by decide +kernel) (by decide +kernel) (by decide +kernel) (by decide +kernel)
theorem allAtoms_all (ts : List Jvm.Cond) (a : Array Jvm.Value) (st : Jvm.State) : (allAtoms ts).before a st = ts.all (fun c => c.before a st) := by
  induction ts with
  | nil => rfl
  | cons c t ih =>
    show (Jvm.Cond.and c (allAtoms t)).before a st = _
    rw [Jvm.Cond.before_and, ih, List.all_cons]
def words1 : List Jvm.Cond := Jvm.Cond.code x code maxLocals ret :: tables_1
/-- a 'code' word, met by the world's own term for the bytes: nothing is compared byte by byte -/
theorem code_word {y : MethodName} {bytes : ByteArray} {mx : Nat} {rt : Option FieldType} {a : Array Value} {s : State} {m : MethodId} {meth : Method} {c : Code} (h1 : s.methodNamed? y = some m) (h2 : s.vm.method? m = some meth) (h3 : meth.code = some c) (h4 : c.code = bytes)
    (h5 : (c.maxLocals == mx && c.exceptionTable.isEmpty && decide (c.maxStack ≤ mostOperands) && decide (meth.sig.returnType = rt) && !meth.locks && decide (parseMethodDescriptor y.desc = some meth.sig)) = true) : (Jvm.Cond.code y bytes mx rt).before a s = true := by
  simp only [Bool.and_eq_true, beq_iff_eq, Bool.not_eq_true', decide_eq_true_eq] at h5
  obtain ⟨⟨⟨⟨⟨g1, g2⟩, g3⟩, g4⟩, g5⟩, g6⟩ := h5
  simp [Cond.before, Cond.holds, Cond.value, h1, h2, h3, h4, g1, g2, g3, g4, g5, g6]
def isCode : Jvm.Cond → Bool
  | .code _ _ _ _ => true
  | _ => false
theorem all_split {L : List Jvm.Cond} {P : Jvm.Cond → Bool} (h1 : L.all (fun c => isCode c || P c) = true) (h2 : ∀ c ∈ L.filter isCode, P c = true) : L.all P = true := by
  refine List.all_eq_true.mpr fun c hc => ?_
  have h := List.all_eq_true.mp h1 c hc
  rcases Bool.eq_false_or_eq_true (isCode c) with hi | hi
  · exact h2 c (List.mem_filter.mpr ⟨hc, hi⟩)
  · simpa [hi] using h
set_option maxRecDepth 65536 in
theorem w_c0 : (Jvm.Cond.code x code maxLocals ret).before args0 about1 = true := code_word (m := ⟨1, 1⟩) (meth := k1m1) (c := k1c1) (by decide +kernel) rfl rfl rfl (by decide +kernel)
set_option maxRecDepth 65536 in
theorem w_c1 : (Jvm.Cond.code ({ cls := "com/example/graded_flow/gradedflow/network/TriangularDiagram", name := "<init>", desc := "(DDD)V" } : Jvm.MethodName) prog_30_method_1_code (7 : Nat) (Option.none : Option Jvm.ClassFile.FieldType)).before args0 about1 = true := code_word (m := ⟨3, 0⟩) (meth := k3m0) (c := k3c0) (by decide +kernel) rfl rfl rfl (by decide +kernel)
set_option maxRecDepth 65536 in
theorem w_c2 : (Jvm.Cond.code ({ cls := "java/lang/Record", name := "<init>", desc := "()V" } : Jvm.MethodName) jdk_30_method_1_code (1 : Nat) (Option.none : Option Jvm.ClassFile.FieldType)).before args0 about1 = true := code_word (m := ⟨2, 0⟩) (meth := k2m0) (c := k2c0) (by decide +kernel) rfl rfl rfl (by decide +kernel)
set_option maxRecDepth 65536 in
theorem w_c3 : (Jvm.Cond.code ({ cls := "java/lang/Object", name := "<init>", desc := "()V" } : Jvm.MethodName) object_method_1_code (1 : Nat) (Option.none : Option Jvm.ClassFile.FieldType)).before args0 about1 = true := code_word (m := ⟨0, 0⟩) (meth := k0m0) (c := k0c0) (by decide +kernel) rfl rfl rfl (by decide +kernel)
set_option maxRecDepth 65536 in
theorem w_c4 : (Jvm.Cond.code ({ cls := "com/example/graded_flow/gradedflow/network/TriangularDiagram", name := "requirePositive", desc := "(Ljava/lang/String;DLjava/lang/String;)V" } : Jvm.MethodName) prog_30_method_9_code (4 : Nat) (Option.none : Option Jvm.ClassFile.FieldType)).before args0 about1 = true := code_word (m := ⟨3, 1⟩) (meth := k3m1) (c := k3c1) (by decide +kernel) rfl rfl rfl (by decide +kernel)
set_option maxRecDepth 65536 in
theorem w_c5 : (Jvm.Cond.code ({ cls := "com/example/graded_flow/gradedflow/network/Link", name := "<init>", desc := "(Ljava/lang/String;Ljava/lang/String;Ljava/lang/String;DILcom/example/graded_flow/gradedflow/network/TriangularDiagram;Lcom/example/graded_flow/gradedflow/network/LinkModel;)V" } : Jvm.MethodName) prog_25_method_1_code (9 : Nat) (Option.none : Option Jvm.ClassFile.FieldType)).before args0 about1 = true := code_word (m := ⟨10, 0⟩) (meth := k10m0) (c := k10c0) (by decide +kernel) rfl rfl rfl (by decide +kernel)
set_option maxRecDepth 65536 in
theorem w_c6 : (Jvm.Cond.code ({ cls := "com/example/graded_flow/gradedflow/microscopic/Entry", name := "<init>", desc := "(Lcom/example/graded_flow/gradedflow/network/Link;D)V" } : Jvm.MethodName) prog_8_method_1_code (5 : Nat) (Option.none : Option Jvm.ClassFile.FieldType)).before args0 about1 = true := code_word (m := ⟨11, 0⟩) (meth := k11m0) (c := k11c0) (by decide +kernel) rfl rfl rfl (by decide +kernel)
set_option maxRecDepth 65536 in
theorem w_c7 : (Jvm.Cond.code ({ cls := "java/util/ArrayList", name := "<init>", desc := "()V" } : Jvm.MethodName) jdk_38_method_2_code (1 : Nat) (Option.none : Option Jvm.ClassFile.FieldType)).before args0 about1 = true := code_word (m := ⟨20, 0⟩) (meth := k20m0) (c := k20c0) (by decide +kernel) rfl rfl rfl (by decide +kernel)
set_option maxRecDepth 65536 in
theorem w_c8 : (Jvm.Cond.code ({ cls := "java/util/AbstractList", name := "<init>", desc := "()V" } : Jvm.MethodName) jdk_39_method_1_code (1 : Nat) (Option.none : Option Jvm.ClassFile.FieldType)).before args0 about1 = true := code_word (m := ⟨17, 0⟩) (meth := k17m0) (c := k17c0) (by decide +kernel) rfl rfl rfl (by decide +kernel)
set_option maxRecDepth 65536 in
theorem w_c9 : (Jvm.Cond.code ({ cls := "java/util/AbstractCollection", name := "<init>", desc := "()V" } : Jvm.MethodName) jdk_22_method_1_code (1 : Nat) (Option.none : Option Jvm.ClassFile.FieldType)).before args0 about1 = true := code_word (m := ⟨14, 0⟩) (meth := k14m0) (c := k14c0) (by decide +kernel) rfl rfl rfl (by decide +kernel)
set_option maxRecDepth 65536 in
theorem w_c10 : (Jvm.Cond.code ({ cls := "com/example/graded_flow/gradedflow/network/Link", name := "lanes", desc := "()I" } : Jvm.MethodName) prog_25_method_11_code (1 : Nat) (Option.some Jvm.ClassFile.FieldType.int)).before args0 about1 = true := code_word (m := ⟨10, 1⟩) (meth := k10m1) (c := k10c1) (by decide +kernel) rfl rfl rfl (by decide +kernel)
set_option maxRecDepth 65536 in
theorem w_c11 : (Jvm.Cond.code ({ cls := "java/util/ArrayDeque", name := "<init>", desc := "()V" } : Jvm.MethodName) jdk_21_method_3_code (1 : Nat) (Option.none : Option Jvm.ClassFile.FieldType)).before args0 about1 = true := code_word (m := ⟨23, 0⟩) (meth := k23m0) (c := k23c0) (by decide +kernel) rfl rfl rfl (by decide +kernel)
set_option maxRecDepth 65536 in
theorem w_c12 : (Jvm.Cond.code ({ cls := "java/util/ArrayList", name := "add", desc := "(Ljava/lang/Object;)Z" } : Jvm.MethodName) jdk_38_method_25_code (2 : Nat) (Option.some Jvm.ClassFile.FieldType.boolean)).before args0 about1 = true := code_word (m := ⟨20, 4⟩) (meth := k20m4) (c := k20c4) (by decide +kernel) rfl rfl rfl (by decide +kernel)
set_option maxRecDepth 65536 in
theorem w_c13 : (Jvm.Cond.code ({ cls := "java/util/ArrayList", name := "add", desc := "(Ljava/lang/Object;[Ljava/lang/Object;I)V" } : Jvm.MethodName) jdk_38_method_24_code (4 : Nat) (Option.none : Option Jvm.ClassFile.FieldType)).before args0 about1 = true := code_word (m := ⟨20, 3⟩) (meth := k20m3) (c := k20c3) (by decide +kernel) rfl rfl rfl (by decide +kernel)
set_option maxRecDepth 65536 in
theorem w_c14 : (Jvm.Cond.code ({ cls := "java/util/ArrayList", name := "grow", desc := "()[Ljava/lang/Object;" } : Jvm.MethodName) jdk_38_method_7_code (1 : Nat) (Option.some (Jvm.ClassFile.FieldType.array (Jvm.ClassFile.FieldType.object "java/lang/Object")))).before args0 about1 = true := code_word (m := ⟨20, 2⟩) (meth := k20m2) (c := k20c2) (by decide +kernel) rfl rfl rfl (by decide +kernel)
set_option maxRecDepth 65536 in
theorem w_c15 : (Jvm.Cond.code ({ cls := "java/util/ArrayList", name := "grow", desc := "(I)[Ljava/lang/Object;" } : Jvm.MethodName) jdk_38_method_6_code (4 : Nat) (Option.some (Jvm.ClassFile.FieldType.array (Jvm.ClassFile.FieldType.object "java/lang/Object")))).before args0 about1 = true := code_word (m := ⟨20, 1⟩) (meth := k20m1) (c := k20c1) (by decide +kernel) rfl rfl rfl (by decide +kernel)
set_option maxRecDepth 65536 in
theorem w_c16 : (Jvm.Cond.code ({ cls := "java/lang/Math", name := "max", desc := "(II)I" } : Jvm.MethodName) jdk_29_method_65_code (2 : Nat) (Option.some Jvm.ClassFile.FieldType.int)).before args0 about1 = true := code_word (m := ⟨24, 1⟩) (meth := k24m1) (c := k24c1) (by decide +kernel) rfl rfl rfl (by decide +kernel)
set_option maxRecDepth 65536 in
theorem w_c17 : (Jvm.Cond.code ({ cls := "com/example/graded_flow/gradedflow/microscopic/Entry", name := "takeIn", desc := "(DD)V" } : Jvm.MethodName) prog_8_method_5_code (5 : Nat) (Option.none : Option Jvm.ClassFile.FieldType)).before args0 about1 = true := code_word (m := ⟨11, 2⟩) (meth := k11m2) (c := k11c2) (by decide +kernel) rfl rfl rfl (by decide +kernel)
set_option maxRecDepth 65536 in
theorem w_c18 : (Jvm.Cond.code ({ cls := "com/example/graded_flow/gradedflow/microscopic/Entry", name := "entrySpeed", desc := "(D)D" } : Jvm.MethodName) prog_8_method_7_code (9 : Nat) (Option.some Jvm.ClassFile.FieldType.double)).before args0 about1 = true := code_word (m := ⟨11, 3⟩) (meth := k11m3) (c := k11c3) (by decide +kernel) rfl rfl rfl (by decide +kernel)
set_option maxRecDepth 65536 in
theorem w_c19 : (Jvm.Cond.code ({ cls := "com/example/graded_flow/gradedflow/network/Link", name := "road", desc := "()Lcom/example/graded_flow/gradedflow/network/TriangularDiagram;" } : Jvm.MethodName) prog_25_method_12_code (1 : Nat) (Option.some (Jvm.ClassFile.FieldType.object "com/example/graded_flow/gradedflow/network/TriangularDiagram"))).before args0 about1 = true := code_word (m := ⟨10, 2⟩) (meth := k10m2) (c := k10c2) (by decide +kernel) rfl rfl rfl (by decide +kernel)
set_option maxRecDepth 65536 in
theorem w_c20 : (Jvm.Cond.code ({ cls := "com/example/graded_flow/gradedflow/network/TriangularDiagram", name := "freeSpeed", desc := "()D" } : Jvm.MethodName) prog_30_method_14_code (1 : Nat) (Option.some Jvm.ClassFile.FieldType.double)).before args0 about1 = true := code_word (m := ⟨3, 2⟩) (meth := k3m2) (c := k3c2) (by decide +kernel) rfl rfl rfl (by decide +kernel)
set_option maxRecDepth 65536 in
theorem w_c21 : (Jvm.Cond.code ({ cls := "java/lang/Math", name := "min", desc := "(DD)D" } : Jvm.MethodName) jdk_29_method_72_code (4 : Nat) (Option.some Jvm.ClassFile.FieldType.double)).before args0 about1 = true := code_word (m := ⟨24, 2⟩) (meth := k24m2) (c := k24c2) (by decide +kernel) rfl rfl rfl (by decide +kernel)
set_option maxRecDepth 65536 in
theorem w_c22 : (Jvm.Cond.code ({ cls := "com/example/graded_flow/gradedflow/microscopic/Entry", name := "endStep", desc := "()V" } : Jvm.MethodName) prog_8_method_14_code (1 : Nat) (Option.none : Option Jvm.ClassFile.FieldType)).before args0 about1 = true := code_word (m := ⟨11, 4⟩) (meth := k11m4) (c := k11c4) (by decide +kernel) rfl rfl rfl (by decide +kernel)
set_option maxRecDepth 65536 in
theorem w_c23 : (Jvm.Cond.code ({ cls := "com/example/graded_flow/gradedflow/microscopic/Entry", name := "remainder", desc := "()D" } : Jvm.MethodName) prog_8_method_3_code (1 : Nat) (Option.some Jvm.ClassFile.FieldType.double)).before args0 about1 = true := code_word (m := ⟨11, 1⟩) (meth := k11m1) (c := k11c1) (by decide +kernel) rfl rfl rfl (by decide +kernel)
def codes1 : List Jvm.Cond := [Jvm.Cond.code x code maxLocals ret, Jvm.Cond.code ({ cls := "com/example/graded_flow/gradedflow/network/TriangularDiagram", name := "<init>", desc := "(DDD)V" } : Jvm.MethodName) prog_30_method_1_code (7 : Nat) (Option.none : Option Jvm.ClassFile.FieldType), Jvm.Cond.code ({ cls := "java/lang/Record", name := "<init>", desc := "()V" } : Jvm.MethodName) jdk_30_method_1_code (1 : Nat) (Option.none : Option Jvm.ClassFile.FieldType), Jvm.Cond.code ({ cls := "java/lang/Object", name := "<init>", desc := "()V" } : Jvm.MethodName) object_method_1_code (1 : Nat) (Option.none : Option Jvm.ClassFile.FieldType), Jvm.Cond.code ({ cls := "com/example/graded_flow/gradedflow/network/TriangularDiagram", name := "requirePositive", desc := "(Ljava/lang/String;DLjava/lang/String;)V" } : Jvm.MethodName) prog_30_method_9_code (4 : Nat) (Option.none : Option Jvm.ClassFile.FieldType), Jvm.Cond.code ({ cls := "com/example/graded_flow/gradedflow/network/Link", name := "<init>", desc := "(Ljava/lang/String;Ljava/lang/String;Ljava/lang/String;DILcom/example/graded_flow/gradedflow/network/TriangularDiagram;Lcom/example/graded_flow/gradedflow/network/LinkModel;)V" } : Jvm.MethodName) prog_25_method_1_code (9 : Nat) (Option.none : Option Jvm.ClassFile.FieldType), Jvm.Cond.code ({ cls := "com/example/graded_flow/gradedflow/microscopic/Entry", name := "<init>", desc := "(Lcom/example/graded_flow/gradedflow/network/Link;D)V" } : Jvm.MethodName) prog_8_method_1_code (5 : Nat) (Option.none : Option Jvm.ClassFile.FieldType), Jvm.Cond.code ({ cls := "java/util/ArrayList", name := "<init>", desc := "()V" } : Jvm.MethodName) jdk_38_method_2_code (1 : Nat) (Option.none : Option Jvm.ClassFile.FieldType), Jvm.Cond.code ({ cls := "java/util/AbstractList", name := "<init>", desc := "()V" } : Jvm.MethodName) jdk_39_method_1_code (1 : Nat) (Option.none : Option Jvm.ClassFile.FieldType), Jvm.Cond.code ({ cls := "java/util/AbstractCollection", name := "<init>", desc := "()V" } : Jvm.MethodName) jdk_22_method_1_code (1 : Nat) (Option.none : Option Jvm.ClassFile.FieldType), Jvm.Cond.code ({ cls := "com/example/graded_flow/gradedflow/network/Link", name := "lanes", desc := "()I" } : Jvm.MethodName) prog_25_method_11_code (1 : Nat) (Option.some Jvm.ClassFile.FieldType.int), Jvm.Cond.code ({ cls := "java/util/ArrayDeque", name := "<init>", desc := "()V" } : Jvm.MethodName) jdk_21_method_3_code (1 : Nat) (Option.none : Option Jvm.ClassFile.FieldType), Jvm.Cond.code ({ cls := "java/util/ArrayList", name := "add", desc := "(Ljava/lang/Object;)Z" } : Jvm.MethodName) jdk_38_method_25_code (2 : Nat) (Option.some Jvm.ClassFile.FieldType.boolean), Jvm.Cond.code ({ cls := "java/util/ArrayList", name := "add", desc := "(Ljava/lang/Object;[Ljava/lang/Object;I)V" } : Jvm.MethodName) jdk_38_method_24_code (4 : Nat) (Option.none : Option Jvm.ClassFile.FieldType), Jvm.Cond.code ({ cls := "java/util/ArrayList", name := "grow", desc := "()[Ljava/lang/Object;" } : Jvm.MethodName) jdk_38_method_7_code (1 : Nat) (Option.some (Jvm.ClassFile.FieldType.array (Jvm.ClassFile.FieldType.object "java/lang/Object"))), Jvm.Cond.code ({ cls := "java/util/ArrayList", name := "grow", desc := "(I)[Ljava/lang/Object;" } : Jvm.MethodName) jdk_38_method_6_code (4 : Nat) (Option.some (Jvm.ClassFile.FieldType.array (Jvm.ClassFile.FieldType.object "java/lang/Object"))), Jvm.Cond.code ({ cls := "java/lang/Math", name := "max", desc := "(II)I" } : Jvm.MethodName) jdk_29_method_65_code (2 : Nat) (Option.some Jvm.ClassFile.FieldType.int), Jvm.Cond.code ({ cls := "com/example/graded_flow/gradedflow/microscopic/Entry", name := "takeIn", desc := "(DD)V" } : Jvm.MethodName) prog_8_method_5_code (5 : Nat) (Option.none : Option Jvm.ClassFile.FieldType), Jvm.Cond.code ({ cls := "com/example/graded_flow/gradedflow/microscopic/Entry", name := "entrySpeed", desc := "(D)D" } : Jvm.MethodName) prog_8_method_7_code (9 : Nat) (Option.some Jvm.ClassFile.FieldType.double), Jvm.Cond.code ({ cls := "com/example/graded_flow/gradedflow/network/Link", name := "road", desc := "()Lcom/example/graded_flow/gradedflow/network/TriangularDiagram;" } : Jvm.MethodName) prog_25_method_12_code (1 : Nat) (Option.some (Jvm.ClassFile.FieldType.object "com/example/graded_flow/gradedflow/network/TriangularDiagram")), Jvm.Cond.code ({ cls := "com/example/graded_flow/gradedflow/network/TriangularDiagram", name := "freeSpeed", desc := "()D" } : Jvm.MethodName) prog_30_method_14_code (1 : Nat) (Option.some Jvm.ClassFile.FieldType.double), Jvm.Cond.code ({ cls := "java/lang/Math", name := "min", desc := "(DD)D" } : Jvm.MethodName) jdk_29_method_72_code (4 : Nat) (Option.some Jvm.ClassFile.FieldType.double), Jvm.Cond.code ({ cls := "com/example/graded_flow/gradedflow/microscopic/Entry", name := "endStep", desc := "()V" } : Jvm.MethodName) prog_8_method_14_code (1 : Nat) (Option.none : Option Jvm.ClassFile.FieldType), Jvm.Cond.code ({ cls := "com/example/graded_flow/gradedflow/microscopic/Entry", name := "remainder", desc := "()D" } : Jvm.MethodName) prog_8_method_3_code (1 : Nat) (Option.some Jvm.ClassFile.FieldType.double)]
set_option maxRecDepth 65536 in
theorem codes_eq : words1.filter isCode = codes1 := rfl
theorem w_codes : ∀ c ∈ words1.filter isCode, c.before args0 about1 = true := by
  rw [codes_eq]
  intro c hc
  simp only [codes1, List.mem_cons, List.not_mem_nil, or_false] at hc
  rcases hc with rfl | rfl | rfl | rfl | rfl | rfl | rfl | rfl | rfl | rfl | rfl | rfl | rfl | rfl | rfl | rfl | rfl | rfl | rfl | rfl | rfl | rfl | rfl | rfl
  · exact w_c0
  · exact w_c1
  · exact w_c2
  · exact w_c3
  · exact w_c4
  · exact w_c5
  · exact w_c6
  · exact w_c7
  · exact w_c8
  · exact w_c9
  · exact w_c10
  · exact w_c11
  · exact w_c12
  · exact w_c13
  · exact w_c14
  · exact w_c15
  · exact w_c16
  · exact w_c17
  · exact w_c18
  · exact w_c19
  · exact w_c20
  · exact w_c21
  · exact w_c22
  · exact w_c23
set_option maxRecDepth 65536 in
theorem w_t1 : (words1.take 24).all (fun c => isCode c || c.before args0 about1) = true := by decide +kernel
set_option maxRecDepth 65536 in
theorem w_t2 : ((words1.drop 24).take 24).all (fun c => isCode c || c.before args0 about1) = true := by decide +kernel
set_option maxRecDepth 65536 in
theorem w_t3 : (((words1.drop 24).drop 24).take 24).all (fun c => isCode c || c.before args0 about1) = true := by decide +kernel
set_option maxRecDepth 65536 in
theorem w_t4 : ((((words1.drop 24).drop 24).drop 24).take 24).all (fun c => isCode c || c.before args0 about1) = true := by decide +kernel
set_option maxRecDepth 65536 in
theorem w_t5 : (((((words1.drop 24).drop 24).drop 24).drop 24).take 24).all (fun c => isCode c || c.before args0 about1) = true := by decide +kernel
set_option maxRecDepth 65536 in
theorem w_t6 : ((((((words1.drop 24).drop 24).drop 24).drop 24).drop 24).take 24).all (fun c => isCode c || c.before args0 about1) = true := by decide +kernel
set_option maxRecDepth 65536 in
theorem w_t7 : (((((((words1.drop 24).drop 24).drop 24).drop 24).drop 24).drop 24).take 24).all (fun c => isCode c || c.before args0 about1) = true := by decide +kernel
set_option maxRecDepth 65536 in
theorem w_t8 : ((((((((words1.drop 24).drop 24).drop 24).drop 24).drop 24).drop 24).drop 24).take 24).all (fun c => isCode c || c.before args0 about1) = true := by decide +kernel
set_option maxRecDepth 65536 in
theorem w_t9 : ((((((((words1.drop 24).drop 24).drop 24).drop 24).drop 24).drop 24).drop 24).drop 24).all (fun c => isCode c || c.before args0 about1) = true := by decide +kernel
theorem w_tables : (allAtoms (Jvm.Cond.code x code maxLocals ret :: tables_1)).before args0 about1 = true := by
  rw [allAtoms_all]
  show words1.all (fun c => c.before args0 about1) = true
  refine all_split ?_ w_codes
  rw [← List.take_append_drop 24 words1, List.all_append, w_t1, ← List.take_append_drop 24 (words1.drop 24), List.all_append, w_t2, ← List.take_append_drop 24 ((words1.drop 24).drop 24), List.all_append, w_t3, ← List.take_append_drop 24 (((words1.drop 24).drop 24).drop 24), List.all_append, w_t4, ← List.take_append_drop 24 ((((words1.drop 24).drop 24).drop 24).drop 24), List.all_append, w_t5, ← List.take_append_drop 24 (((((words1.drop 24).drop 24).drop 24).drop 24).drop 24), List.all_append, w_t6, ← List.take_append_drop 24 ((((((words1.drop 24).drop 24).drop 24).drop 24).drop 24).drop 24), List.all_append, w_t7, ← List.take_append_drop 24 (((((((words1.drop 24).drop 24).drop 24).drop 24).drop 24).drop 24).drop 24), List.all_append, w_t8, w_t9]
  rfl
set_option maxRecDepth 65536 in
theorem w_rest : rest_1_c.before args0 about1 = true := by decide +kernel
set_option maxRecDepth 65536 in
theorem w_case : (Jvm.Cond.and given_1 narrow_1).before args0 about1 = true := by decide +kernel
theorem w_applies : (headSpec (Jvm.Cond.code x code maxLocals ret :: tables_1) room_1).applies x e0.platform about1 = true :=
  (Spec.applies_iff w_frames).mpr ⟨w_running, w_runnable, w_alone, w_named, w_hears, w_ripe, w_room, w_tables⟩
theorem atStart : AtStart classFile x code maxLocals ret World_1 tables_1 room_1 Calls_1 rest_1 Pre_1 launch0 p0 e0 about1 theMethod args0 below0 :=
  ⟨lists_1, trivial, launch0.admits_env _ _ _, launch0.least_env, fairChoices_fair.cas, fairChoices_fair.clock, w_frames, w_args, w_heap, w_applies, trivial, w_rest, w_case⟩
end start1
theorem witness_1 : WitnessClaimed_1 := ⟨start1.p0, start1.e0, start1.about1, start1.theMethod, start1.args0, start1.below0, start1.atStart⟩
end Jvm.Pilot.@@N@@
