import JvmDerived
import JvmDerived.Pilot.@@N@@Statement
import JvmDerived.Pilot.@@N@@Code
set_option linter.unusedVariables false
set_option linter.unusedSimpArgs false
namespace Jvm.RoadKit
open Sem ClassFile Op Lib Jvm.Stand Jvm.Free Jvm.LawKit
section New
variable {p : Program} {l : Launch} {e : Env} {R : Room} {s : State} {m : MethodId} {args : Array Value} {below : List Frame} {meth : Method} {c : Code} {T : State} {locs : List Loc} {cells slots : Nat}
theorem retI (X : Stand p l e R s m args below meth c T locs cells slots) (hx : p.tables.exec = Jvm.exec) {pc : Nat} {Ls : Array Slot} {z : Int32} {rest : List Value} (hret : meth.sig.returnType = some .int) (hd : decode c.code pc = .ok (.ireturn, 1)) {fs : List Frame}
    (hl : ∀ (f : JFrame) (acts : List Action), f.method = m → f.locked = none → f.entered = [] → (doReturn e (T.setTop f) acts (some (.int z))).1 = T.setFrames fs) : Steps p.tables e below (T.setTop (mkF m pc Ls (.int z :: rest))) (T.setFrames fs) := by
  have hm' : T.vm.method? m = some meth := X.method'
  have hn : narrow .int (.int z) = .int z := rfl
  show Steps p.tables e below (T.setTop { method := m, pc := pc, locals := Ls, stack := _ :: rest, locked := none }) _
  jvm_step X.here [X.here.top, hx, hd, hm', hret, hn]
  first | (intro acts; rw [hl _ acts rfl rfl rfl]) | rw [hl _ _ rfl rfl rfl]
  exact Steps.refl _
theorem retJ (X : Stand p l e R s m args below meth c T locs cells slots) (hx : p.tables.exec = Jvm.exec) {pc : Nat} {Ls : Array Slot} {z : Int64} {rest : List Value} (hret : meth.sig.returnType = some .long) (hd : decode c.code pc = .ok (.lreturn, 1)) {fs : List Frame}
    (hl : ∀ (f : JFrame) (acts : List Action), f.method = m → f.locked = none → f.entered = [] → (doReturn e (T.setTop f) acts (some (.long z))).1 = T.setFrames fs) : Steps p.tables e below (T.setTop (mkF m pc Ls (.long z :: rest))) (T.setFrames fs) := by
  have hm' : T.vm.method? m = some meth := X.method'
  have hn : narrow .long (.long z) = .long z := rfl
  show Steps p.tables e below (T.setTop { method := m, pc := pc, locals := Ls, stack := _ :: rest, locked := none }) _
  jvm_step X.here [X.here.top, hx, hd, hm', hret, hn]
  first | (intro acts; rw [hl _ acts rfl rfl rfl]) | rw [hl _ _ rfl rfl rfl]
  exact Steps.refl _
theorem retD (X : Stand p l e R s m args below meth c T locs cells slots) (hx : p.tables.exec = Jvm.exec) {pc : Nat} {Ls : Array Slot} {z : UInt64} {rest : List Value} (hret : meth.sig.returnType = some .double) (hd : decode c.code pc = .ok (.dreturn, 1)) {fs : List Frame}
    (hl : ∀ (f : JFrame) (acts : List Action), f.method = m → f.locked = none → f.entered = [] → (doReturn e (T.setTop f) acts (some (.double z))).1 = T.setFrames fs) : Steps p.tables e below (T.setTop (mkF m pc Ls (.double z :: rest))) (T.setFrames fs) := by
  have hm' : T.vm.method? m = some meth := X.method'
  have hn : narrow .double (.double z) = .double z := rfl
  show Steps p.tables e below (T.setTop { method := m, pc := pc, locals := Ls, stack := _ :: rest, locked := none }) _
  jvm_step X.here [X.here.top, hx, hd, hm', hret, hn]
  first | (intro acts; rw [hl _ acts rfl rfl rfl]) | rw [hl _ _ rfl rfl rfl]
  exact Steps.refl _
end New
end Jvm.RoadKit
namespace Jvm.Pilot.@@N@@
open Jvm Jvm.ClassFile Sem Op Lib Jvm.Free Jvm.Stand Jvm.LawKit Jvm.RoadKit Bundle Jvm.Pilot.@@N@@.Jvm.D
theorem own_i {n : Nat} (h : n < 2147483648) : (Int32.ofNat n).toInt = n := Int32.toInt_ofNat_of_lt (by omega)
theorem own_lt {i n : Nat} (h : i < n) (hn : n ≤ 9) : Int32.ofNat i < Int32.ofNat n := by
  rw [Int32.lt_iff_toInt_lt, own_i (by omega), own_i (by omega)]; omega
theorem own_nlt {i n : Nat} (h : n ≤ i) (hn : i ≤ 9) : ¬ Int32.ofNat i < Int32.ofNat n := by
  rw [Int32.lt_iff_toInt_lt, own_i (by omega), own_i (by omega)]; omega
theorem own_nn {n : Nat} (hn : n ≤ 9) : ¬ Int32.ofNat n < 0 := by
  rw [Int32.lt_iff_toInt_lt, own_i (by omega), show (0 : Int32).toInt = 0 from rfl]; omega
theorem own_n32 {n : Nat} (hn : n ≤ 9) : (Int32.ofNat n).toNatClampNeg = n := by
  rw [Int32.toNatClampNeg, own_i (by omega)]; rfl
theorem own_inc (i : Nat) : Int32.ofNat i + (1 : Int32) = Int32.ofNat (i + 1) := (Int32.ofNat_add i 1).symm
theorem own_mask (x n : Int32) (h : n = (x &&& (3 : Int32))) : ∃ N : Nat, N ≤ 3 ∧ n = Int32.ofNat N := by
  subst h
  refine ⟨(x &&& 3).toBitVec.toNat, ?_, ?_⟩
  · simp only [Int32.toBitVec_and, BitVec.toNat_and]
    exact Nat.and_le_right
  · apply Int32.toBitVec_inj.mp
    show _ = BitVec.ofNat 32 _
    rw [BitVec.ofNat_toNat]; simp
/-- an array's places -/
def own_LA (cl : Cell) (N : Nat) (f : Nat → Value) : Prop := cl.slots.size = N ∧ ∀ j, j < N → cl.slots[j]? = some (f j)
theorem own_LA0 {k : ClassId} {cl : Cell} {ty : FieldType} {z : Int32} {N : Nat} (hz : z.toNatClampNeg = N) (h : cl = newA k ty z) : own_LA cl N (fun _ => defaultValue ty) := by
  refine ⟨by rw [h, sz_new, hz], fun j hj => ?_⟩
  rw [h]
  show (Array.replicate _ _)[j]? = _
  rw [Array.getElem?_replicate, if_pos (by rw [hz]; exact hj)]
theorem own_LAset {cl cl' : Cell} {N k : Nat} {f : Nat → Value} {kk : Int32} {r : Value} (L : own_LA cl N f) (hk : kk.toNatClampNeg = k) (hkN : k < N) (h : cl' = cl.setSlot kk.toNatClampNeg r) : own_LA cl' N (fun j => if j = k then r else f j) := by
  refine ⟨by rw [h, sz_set]; exact L.1, fun j hj => ?_⟩
  rw [h, hk]
  show (cl.slots.setIfInBounds k _)[j]? = some (if j = k then r else f j)
  by_cases e : j = k
  · subst e; rw [Array.getElem?_setIfInBounds_self, if_pos (by rw [L.1]; exact hkN), if_pos rfl]
  · rw [Array.getElem?_setIfInBounds_ne (Ne.symm e), if_neg e]; exact L.2 j hj
theorem own_inb {cl : Cell} {N k : Nat} {f : Nat → Value} {kk : Int32} (L : own_LA cl N f) (h0 : ¬ kk < 0) (hk : kk.toNatClampNeg = k) (hkN : k < N) : ¬ (kk < 0 ∨ cl.slots.size ≤ kk.toNatClampNeg) := by
  rw [L.1, hk]; exact fun q => q.elim h0 (fun q => by omega)
theorem own_at {cl : Cell} {N k : Nat} {f : Nat → Value} {kk : Int32} {v : Value} (L : own_LA cl N f) (hk : kk.toNatClampNeg = k) (hkN : k < N) (hv : f k = v) : cl.slots[kk.toNatClampNeg]? = some v := by rw [hk, ← hv]; exact L.2 k hkN
theorem own_size {cl : Cell} {N : Nat} {f : Nat → Value} (L : own_LA cl N f) : cl.slots.size.toInt32 = Int32.ofNat N := by rw [L.1]
theorem own_LAeq {cl : Cell} {N : Nat} {f g : Nat → Value} (L : own_LA cl N f) (h : ∀ j, j < N → f j = g j) : own_LA cl N g := ⟨L.1, fun j hj => by rw [← h j hj]; exact L.2 j hj⟩
def own_h (x0 x1 x2 x3 : Int64) : Nat → Value
  | 0 => .long x0
  | 1 => .long x1
  | 2 => .long x2
  | _ => .long x3
def own_c (x0 x1 x2 x3 : Int64) : Nat → Int64
  | 0 => 0
  | 1 => 0 + x0
  | 2 => (0 + x0) + x1
  | 3 => ((0 + x0) + x1) + x2
  | _ => (((0 + x0) + x1) + x2) + x3
def own_pick (v : Int64) (i A B : Nat) : Int64 := if A ≤ i ∧ i ≤ B then v else 0
def own_cnt (x0 x1 x2 x3 : Int64) (A B : Nat) : Int64 := if B < A then 0 else own_c x0 x1 x2 x3 (B + 1) - own_c x0 x1 x2 x3 A
theorem own_n1 (i : Int32) : Jvm.Free.Fl.NoNaN64 (FP.dmul (FP.i2d i) (FP.i2d i)) := Jvm.Free.Fl.dmul_out (Jvm.Free.Fl.i2d_fin i) (Jvm.Free.Fl.i2d_fin i)
theorem own_m1 (i : Int32) : Jvm.Free.Fl.Mag64 1090 (FP.dmul (FP.i2d i) (FP.i2d i)) := Jvm.Free.Fl.Mag64.mono (K := 1056 + 1056 - 1025 + 3) (Jvm.Free.Fl.dmul_mag (Jvm.Free.Fl.i2d_mag i) (Jvm.Free.Fl.i2d_mag i) (by omega) (by omega)) (by omega)
theorem own_n2 (i : Int32) (x : Int64) : Jvm.Free.Fl.NoNaN64 (FP.dmul (FP.dmul (FP.i2d i) (FP.i2d i)) (FP.l2d x)) := Jvm.Free.Fl.dmul_out ((own_m1 i).fin (by omega)) (Jvm.Free.Fl.l2d_fin x)
theorem own_f2 (i : Int32) (x : Int64) : Jvm.Free.Fl.Fin64 (FP.dmul (FP.dmul (FP.i2d i) (FP.i2d i)) (FP.l2d x)) := (Jvm.Free.Fl.dmul_mag (own_m1 i) (Jvm.Free.Fl.l2d_mag x) (by omega) (by omega)).fin (by omega)
theorem own_n3 {acc : UInt64} (h : Jvm.Free.Fl.NoNaN64 acc) (i : Int32) (x : Int64) : Jvm.Free.Fl.NoNaN64 (FP.dadd acc (FP.dmul (FP.dmul (FP.i2d i) (FP.i2d i)) (FP.l2d x))) := Jvm.Free.Fl.dadd_out h (own_f2 i x)
theorem own_z : Jvm.Free.Fl.NoNaN64 (0 : UInt64) := by unfold Jvm.Free.Fl.NoNaN64; decide +kernel
theorem own_law (x0 x1 x2 x3 : Int64) {A B : Nat} (hA : A ≤ 3) (hB : B ≤ 3) : own_cnt x0 x1 x2 x3 A B = (((own_pick x0 0 A B + own_pick x1 1 A B) + own_pick x2 2 A B) + own_pick x3 3 A B) := by
  match A, B, hA, hB with
  | 0, 0, _, _ => show ((0 + x0) - 0 : Int64) = ((x0 + 0) + 0) + 0; grind
  | 0, 1, _, _ => show (((0 + x0) + x1) - 0 : Int64) = ((x0 + x1) + 0) + 0; grind
  | 0, 2, _, _ => show ((((0 + x0) + x1) + x2) - 0 : Int64) = ((x0 + x1) + x2) + 0; grind
  | 0, 3, _, _ => show (((((0 + x0) + x1) + x2) + x3) - 0 : Int64) = ((x0 + x1) + x2) + x3; grind
  | 1, 0, _, _ => show (0 : Int64) = ((0 + 0) + 0) + 0; grind
  | 1, 1, _, _ => show (((0 + x0) + x1) - (0 + x0) : Int64) = ((0 + x1) + 0) + 0; grind
  | 1, 2, _, _ => show ((((0 + x0) + x1) + x2) - (0 + x0) : Int64) = ((0 + x1) + x2) + 0; grind
  | 1, 3, _, _ => show (((((0 + x0) + x1) + x2) + x3) - (0 + x0) : Int64) = ((0 + x1) + x2) + x3; grind
  | 2, 0, _, _ => show (0 : Int64) = ((0 + 0) + 0) + 0; grind
  | 2, 1, _, _ => show (0 : Int64) = ((0 + 0) + 0) + 0; grind
  | 2, 2, _, _ => show ((((0 + x0) + x1) + x2) - ((0 + x0) + x1) : Int64) = ((0 + 0) + x2) + 0; grind
  | 2, 3, _, _ => show (((((0 + x0) + x1) + x2) + x3) - ((0 + x0) + x1) : Int64) = ((0 + 0) + x2) + x3; grind
  | 3, 0, _, _ => show (0 : Int64) = ((0 + 0) + 0) + 0; grind
  | 3, 1, _, _ => show (0 : Int64) = ((0 + 0) + 0) + 0; grind
  | 3, 2, _, _ => show (0 : Int64) = ((0 + 0) + 0) + 0; grind
  | 3, 3, _, _ => show (((((0 + x0) + x1) + x2) + x3) - (((0 + x0) + x1) + x2) : Int64) = ((0 + 0) + 0) + x3; grind
  | A + 4, _, hA, _ => exact absurd hA (by omega)
  | _, B + 4, _, hB => exact absurd hB (by omega)

theorem d3_0 : decode method_2_code 0 = .ok (.iload_n 3, 1) := by decide +kernel
theorem d3_1 : decode method_2_code 1 = .ok (.iload_n 2, 1) := by decide +kernel
theorem d3_2 : decode method_2_code 2 = .ok (.if_icmp .gt 11, 3) := by decide +kernel
theorem d3_13 : decode method_2_code 13 = .ok (.lconst 0, 1) := by decide +kernel
theorem d3_14 : decode method_2_code 14 = .ok (.lreturn, 1) := by decide +kernel
theorem d3_5 : decode method_2_code 5 = .ok (.iload_n 2, 1) := by decide +kernel
theorem d3_6 : decode method_2_code 6 = .ok (.iload 4, 2) := by decide +kernel
theorem d3_8 : decode method_2_code 8 = .ok (.if_icmp .gt 5, 3) := by decide +kernel
theorem d3_11 : decode method_2_code 11 = .ok (.lload_n 0, 1) := by decide +kernel
theorem d3_12 : decode method_2_code 12 = .ok (.lreturn, 1) := by decide +kernel
theorem pn_3 : plainName "com/example/quantiscope/quantiscope/threshold/BinsCountPinLaw" = true := by first | (simp [plainName, overriddenIn]; done) | decide +kernel
theorem ef_3_xxxx (m : MethodId) (x0 : Int64) (x1 : Int32) (x2 : Int32) (x3 : Int32) : entryFrame m #[(.long x0), (.int x1), (.int x2), (.int x3)] 5 = mkF m 0 #[.val (.long x0), .second, .val (.int x1), .val (.int x2), .val (.int x3)] [] := by first | (simp [entryFrame, mkF, argsToLocals, Value.category]; done) | rfl
def Q3 (Z : State) (vv : Int64) (i : Nat) (A : Nat) (B : Nat) (h0 : Heap) (n0 : Nat) (v : Option Value) (h : Heap) (L : List Loc) : Prop := v = some (.long (own_pick vv i A B)) ∧ Fr n0 L ∧ h = h0
set_option maxRecDepth 65536 in
set_option maxHeartbeats 40000000 in
theorem rm3 (l : Launch) (Z : State) (a0 : Array Value) (hw : ∀ d ∈ tables_1, d.before a0 Z = true) (ws : List Jvm.Cond) (vv : Int64) (i : Nat) (A : Nat) (B : Nat) (h0 : Heap) (n0 : Nat) (Z0 : n0 ≤ h0.size) (hi : i ≤ 3) (hA : A ≤ 3) (hB : B ≤ 3) :
    MetFree l (⟨"com/example/quantiscope/quantiscope/threshold/BinsCountPinLaw", "pick", "(JIII)J"⟩ : MethodName) (head1 (Jvm.Cond.code (⟨"com/example/quantiscope/quantiscope/threshold/BinsCountPinLaw", "pick", "(JIII)J"⟩ : MethodName) method_2_code 5 (some .long) :: ws) ({ frames := 0, cells := 0, slots := 0, locals := 0 } : Room)) (fun a U => a = #[(.long vv), (.int (Int32.ofNat i)), (.int (Int32.ofNat A)), (.int (Int32.ofNat B))] ∧ Z.Warmed39 U.vm ∧ U.heap = h0) (fun _ _ _ _ _ => True) (fun _ U o U' => ∃ v L, o = .returned v ∧ Q3 Z vv i A B h0 n0 v U'.heap L ∧ FrameEnd U o U' L ({ frames := 0, cells := 0, slots := 0, locals := 0 } : Room).cells ({ frames := 0, cells := 0, slots := 0, locals := 0 } : Room).slots) := by
  refine MetFree.of_bodySF (plainFor_of_name pn_3) hisR ?_
  intro p e s m args below meth c s₁ Bd hml0 hP hK
  obtain ⟨rfl, hZ, hh⟩ := hP
  have hx := Bd.exec
  have hby := Bd.bytes
  have hml : c.maxLocals = 5 := hml0
  have hown : s.vm.findClass "com/example/quantiscope/quantiscope/threshold/BinsCountPinLaw" = some m.cls := findClass_of_methodNamed Bd.named
  have hnm := (name_of_methodNamed Bd.named Bd.method).1
  have X0 : Stand p l e ({ frames := 0, cells := 0, slots := 0, locals := 0 } : Room) s m #[(.long vv), (.int (Int32.ofNat i)), (.int (Int32.ofNat A)), (.int (Int32.ofNat B))] below meth c s₁ [] 0 0 := Stand.of_body Bd
  have e0 : s₁.heap = h0 := by rw [← hh, Bd.state]; rfl
  have N0 := Fr.nil n0
  have pre0 : ∀ t, Steps p.tables e below (s₁.setTop (mkF m 0 #[.val (.long vv), .second, .val (.int (Int32.ofNat i)), .val (.int (Int32.ofNat A)), .val (.int (Int32.ofNat B))] [])) t → Steps p.tables e below (s₁.setTop (entryFrame m #[(.long vv), (.int (Int32.ofNat i)), (.int (Int32.ofNat A)), (.int (Int32.ofNat B))] 5)) t := fun t k => castTop (ef_3_xxxx m vv (Int32.ofNat i) (Int32.ofNat A) (Int32.ofNat B)) k
  have J1 : ∀ t, Steps p.tables e below (s₁.setTop (mkF m 2 #[.val (.long vv), .second, .val (.int (Int32.ofNat i)), .val (.int (Int32.ofNat A)), .val (.int (Int32.ofNat B))] [(.int (Int32.ofNat i)), (.int (Int32.ofNat A))])) t → Steps p.tables e below (s₁.setTop (entryFrame m #[(.long vv), (.int (Int32.ofNat i)), (.int (Int32.ofNat A)), (.int (Int32.ofNat B))] 5)) t := fun t k => pre0 t (by
      show Steps p.tables e below (s₁.setTop (mkF m 0 #[.val (.long vv), .second, .val (.int (Int32.ofNat i)), .val (.int (Int32.ofNat A)), .val (.int (Int32.ofNat B))] [])) _
      refine XS.iloadN X0.here hx rfl (hb hby d3_0) rfl ?_
      show Steps p.tables e below (s₁.setTop (mkF m 1 #[.val (.long vv), .second, .val (.int (Int32.ofNat i)), .val (.int (Int32.ofNat A)), .val (.int (Int32.ofNat B))] [(.int (Int32.ofNat A))])) _
      refine XS.iloadN X0.here hx rfl (hb hby d3_1) rfl ?_
      exact k)
  by_cases h1 : i < A
  ·
    have J2 : ∀ t, Steps p.tables e below (s₁.setTop (mkF m 14 #[.val (.long vv), .second, .val (.int (Int32.ofNat i)), .val (.int (Int32.ofNat A)), .val (.int (Int32.ofNat B))] [(.long (0 : Int64))])) t → Steps p.tables e below (s₁.setTop (entryFrame m #[(.long vv), (.int (Int32.ofNat i)), (.int (Int32.ofNat A)), (.int (Int32.ofNat B))] 5)) t := fun t k => J1 t (by
        show Steps p.tables e below (s₁.setTop (mkF m 2 #[.val (.long vv), .second, .val (.int (Int32.ofNat i)), .val (.int (Int32.ofNat A)), .val (.int (Int32.ofNat B))] [(.int (Int32.ofNat i)), (.int (Int32.ofNat A))])) _
        refine XS.icmpYes X0.here hx rfl (pc0 := 2) (pc' := 13) rfl (hb hby d3_2) rfl (tlt (own_lt h1 (by omega))).2.2.1 (by decide) (by decide) ?_
        show Steps p.tables e below (s₁.setTop (mkF m 13 #[.val (.long vv), .second, .val (.int (Int32.ofNat i)), .val (.int (Int32.ofNat A)), .val (.int (Int32.ofNat B))] [])) _
        refine XS.lconst X0.here hx rfl (hb hby d3_13) ?_
        exact k)
    obtain ⟨fs, hr, hrun, hended, hW, hsame⟩ := X0.leave (v := some (.long (0 : Int64))) (fun h => by rw [Bd.returns] at h; cases h)
    refine ⟨_, _, J2 _ ?_, hrun, hended, _, _, rfl, ?_, ⟨_, rfl⟩, hW, hsame.mono (by decide) (by decide)⟩
    · show Steps p.tables e below (s₁.setTop (mkF m 14 #[.val (.long vv), .second, .val (.int (Int32.ofNat i)), .val (.int (Int32.ofNat A)), .val (.int (Int32.ofNat B))] [(.long (0 : Int64))])) _
      exact retJ X0 hx Bd.returns (hb hby d3_14) hr
    · show Q3 Z vv i A B h0 n0 _ s₁.heap _
      rw [e0]
      exact ⟨(by rw [show own_pick vv i A B = 0 from if_neg (fun q => by omega)]), N0, rfl⟩
  ·
    have J3 : ∀ t, Steps p.tables e below (s₁.setTop (mkF m 8 #[.val (.long vv), .second, .val (.int (Int32.ofNat i)), .val (.int (Int32.ofNat A)), .val (.int (Int32.ofNat B))] [(.int (Int32.ofNat B)), (.int (Int32.ofNat i))])) t → Steps p.tables e below (s₁.setTop (entryFrame m #[(.long vv), (.int (Int32.ofNat i)), (.int (Int32.ofNat A)), (.int (Int32.ofNat B))] 5)) t := fun t k => J1 t (by
        show Steps p.tables e below (s₁.setTop (mkF m 2 #[.val (.long vv), .second, .val (.int (Int32.ofNat i)), .val (.int (Int32.ofNat A)), .val (.int (Int32.ofNat B))] [(.int (Int32.ofNat i)), (.int (Int32.ofNat A))])) _
        refine XS.icmpNo X0.here hx rfl (hb hby d3_2) rfl (flt (own_nlt (by omega) (by omega))).2.2.1 ?_
        show Steps p.tables e below (s₁.setTop (mkF m 5 #[.val (.long vv), .second, .val (.int (Int32.ofNat i)), .val (.int (Int32.ofNat A)), .val (.int (Int32.ofNat B))] [])) _
        refine XS.iloadN X0.here hx rfl (hb hby d3_5) rfl ?_
        show Steps p.tables e below (s₁.setTop (mkF m 6 #[.val (.long vv), .second, .val (.int (Int32.ofNat i)), .val (.int (Int32.ofNat A)), .val (.int (Int32.ofNat B))] [(.int (Int32.ofNat i))])) _
        refine XS.iload X0.here hx rfl (hb hby d3_6) rfl ?_
        exact k)
    by_cases h2 : B < i
    ·
      have J4 : ∀ t, Steps p.tables e below (s₁.setTop (mkF m 14 #[.val (.long vv), .second, .val (.int (Int32.ofNat i)), .val (.int (Int32.ofNat A)), .val (.int (Int32.ofNat B))] [(.long (0 : Int64))])) t → Steps p.tables e below (s₁.setTop (entryFrame m #[(.long vv), (.int (Int32.ofNat i)), (.int (Int32.ofNat A)), (.int (Int32.ofNat B))] 5)) t := fun t k => J3 t (by
          show Steps p.tables e below (s₁.setTop (mkF m 8 #[.val (.long vv), .second, .val (.int (Int32.ofNat i)), .val (.int (Int32.ofNat A)), .val (.int (Int32.ofNat B))] [(.int (Int32.ofNat B)), (.int (Int32.ofNat i))])) _
          refine XS.icmpYes X0.here hx rfl (pc0 := 8) (pc' := 13) rfl (hb hby d3_8) rfl (tlt (own_lt h2 (by omega))).2.2.1 (by decide) (by decide) ?_
          show Steps p.tables e below (s₁.setTop (mkF m 13 #[.val (.long vv), .second, .val (.int (Int32.ofNat i)), .val (.int (Int32.ofNat A)), .val (.int (Int32.ofNat B))] [])) _
          refine XS.lconst X0.here hx rfl (hb hby d3_13) ?_
          exact k)
      obtain ⟨fs, hr, hrun, hended, hW, hsame⟩ := X0.leave (v := some (.long (0 : Int64))) (fun h => by rw [Bd.returns] at h; cases h)
      refine ⟨_, _, J4 _ ?_, hrun, hended, _, _, rfl, ?_, ⟨_, rfl⟩, hW, hsame.mono (by decide) (by decide)⟩
      · show Steps p.tables e below (s₁.setTop (mkF m 14 #[.val (.long vv), .second, .val (.int (Int32.ofNat i)), .val (.int (Int32.ofNat A)), .val (.int (Int32.ofNat B))] [(.long (0 : Int64))])) _
        exact retJ X0 hx Bd.returns (hb hby d3_14) hr
      · show Q3 Z vv i A B h0 n0 _ s₁.heap _
        rw [e0]
        exact ⟨(by rw [show own_pick vv i A B = 0 from if_neg (fun q => by omega)]), N0, rfl⟩
    ·
      have J5 : ∀ t, Steps p.tables e below (s₁.setTop (mkF m 12 #[.val (.long vv), .second, .val (.int (Int32.ofNat i)), .val (.int (Int32.ofNat A)), .val (.int (Int32.ofNat B))] [(.long vv)])) t → Steps p.tables e below (s₁.setTop (entryFrame m #[(.long vv), (.int (Int32.ofNat i)), (.int (Int32.ofNat A)), (.int (Int32.ofNat B))] 5)) t := fun t k => J3 t (by
          show Steps p.tables e below (s₁.setTop (mkF m 8 #[.val (.long vv), .second, .val (.int (Int32.ofNat i)), .val (.int (Int32.ofNat A)), .val (.int (Int32.ofNat B))] [(.int (Int32.ofNat B)), (.int (Int32.ofNat i))])) _
          refine XS.icmpNo X0.here hx rfl (hb hby d3_8) rfl (flt (own_nlt (by omega) (by omega))).2.2.1 ?_
          show Steps p.tables e below (s₁.setTop (mkF m 11 #[.val (.long vv), .second, .val (.int (Int32.ofNat i)), .val (.int (Int32.ofNat A)), .val (.int (Int32.ofNat B))] [])) _
          refine XS.lloadN X0.here hx rfl (hb hby d3_11) rfl ?_
          exact k)
      obtain ⟨fs, hr, hrun, hended, hW, hsame⟩ := X0.leave (v := some (.long vv)) (fun h => by rw [Bd.returns] at h; cases h)
      refine ⟨_, _, J5 _ ?_, hrun, hended, _, _, rfl, ?_, ⟨_, rfl⟩, hW, hsame.mono (by decide) (by decide)⟩
      · show Steps p.tables e below (s₁.setTop (mkF m 12 #[.val (.long vv), .second, .val (.int (Int32.ofNat i)), .val (.int (Int32.ofNat A)), .val (.int (Int32.ofNat B))] [(.long vv)])) _
        exact retJ X0 hx Bd.returns (hb hby d3_12) hr
      · show Q3 Z vv i A B h0 n0 _ s₁.heap _
        rw [e0]
        exact ⟨(by rw [show own_pick vv i A B = vv from if_pos ⟨by omega, by omega⟩]), N0, rfl⟩
theorem d4_0 : decode prog_63_method_6_code 0 = .ok (.iload_n 1, 1) := by decide +kernel
theorem d4_1 : decode prog_63_method_6_code 1 = .ok (.iload_n 2, 1) := by decide +kernel
theorem d4_2 : decode prog_63_method_6_code 2 = .ok (.if_icmp .le 7, 3) := by decide +kernel
theorem d4_5 : decode prog_63_method_6_code 5 = .ok (.lconst 0, 1) := by decide +kernel
theorem d4_6 : decode prog_63_method_6_code 6 = .ok (.goto 18, 3) := by decide +kernel
theorem d4_24 : decode prog_63_method_6_code 24 = .ok (.lreturn, 1) := by decide +kernel
theorem d4_9 : decode prog_63_method_6_code 9 = .ok (.aload_n 0, 1) := by decide +kernel
theorem d4_10 : decode prog_63_method_6_code 10 = .ok (.getfield 7, 3) := by decide +kernel
theorem d4_13 : decode prog_63_method_6_code 13 = .ok (.iload_n 2, 1) := by decide +kernel
theorem d4_14 : decode prog_63_method_6_code 14 = .ok (.iconst 1, 1) := by decide +kernel
theorem d4_15 : decode prog_63_method_6_code 15 = .ok (.iadd, 1) := by decide +kernel
theorem d4_16 : decode prog_63_method_6_code 16 = .ok (.laload, 1) := by decide +kernel
theorem d4_17 : decode prog_63_method_6_code 17 = .ok (.aload_n 0, 1) := by decide +kernel
theorem d4_18 : decode prog_63_method_6_code 18 = .ok (.getfield 7, 3) := by decide +kernel
theorem d4_21 : decode prog_63_method_6_code 21 = .ok (.iload_n 1, 1) := by decide +kernel
theorem d4_22 : decode prog_63_method_6_code 22 = .ok (.laload, 1) := by decide +kernel
theorem d4_23 : decode prog_63_method_6_code 23 = .ok (.lsub, 1) := by decide +kernel
theorem pn_4 : plainName "com/example/quantiscope/quantiscope/threshold/Bins" = true := by first | (simp [plainName, overriddenIn]; done) | decide +kernel
theorem ef_4_xxx (m : MethodId) (x0 : Addr) (x1 : Int32) (x2 : Int32) : entryFrame m #[(.ref x0), (.int x1), (.int x2)] 3 = mkF m 0 #[.val (.ref x0), .val (.int x1), .val (.int x2)] [] := by first | (simp [entryFrame, mkF, argsToLocals, Value.category]; done) | rfl
def Q4 (Z : State) (a1 : Addr) (b1 : Addr) (cl : Cell) (x0 : Int64) (x1 : Int64) (x2 : Int64) (x3 : Int64) (A : Nat) (B : Nat) (h0 : Heap) (n0 : Nat) (v : Option Value) (h : Heap) (L : List Loc) : Prop := v = some (.long (own_cnt x0 x1 x2 x3 A B)) ∧ Fr n0 L ∧ h = h0
set_option maxRecDepth 65536 in
set_option maxHeartbeats 40000000 in
theorem rm4 (l : Launch) (Z : State) (a0 : Array Value) (hw : ∀ d ∈ tables_1, d.before a0 Z = true) (ws : List Jvm.Cond) (a1 : Addr) (b1 : Addr) (cl : Cell) (x0 : Int64) (x1 : Int64) (x2 : Int64) (x3 : Int64) (A : Nat) (B : Nat) (h0 : Heap) (n0 : Nat) (Z0 : n0 ≤ h0.size) (F_counts_a1 : Fld Z h0 a1 "com/example/quantiscope/quantiscope/threshold/Bins" "counts" "[J" (.ref b1)) (Ar_b1 : Arr Z h0 b1 cl .long) (L : own_LA cl 5 (fun j => .long (own_c x0 x1 x2 x3 j))) (hA : A ≤ 3) (hB : B ≤ 3) :
    MetFree l (⟨"com/example/quantiscope/quantiscope/threshold/Bins", "count", "(II)J"⟩ : MethodName) (head1 (Jvm.Cond.code (⟨"com/example/quantiscope/quantiscope/threshold/Bins", "count", "(II)J"⟩ : MethodName) prog_63_method_6_code 3 (some .long) :: ws) ({ frames := 0, cells := 0, slots := 0, locals := 0 } : Room)) (fun a U => a = #[(.ref a1), (.int (Int32.ofNat A)), (.int (Int32.ofNat B))] ∧ Z.Warmed39 U.vm ∧ U.heap = h0) (fun _ _ _ _ _ => True) (fun _ U o U' => ∃ v L, o = .returned v ∧ Q4 Z a1 b1 cl x0 x1 x2 x3 A B h0 n0 v U'.heap L ∧ FrameEnd U o U' L ({ frames := 0, cells := 0, slots := 0, locals := 0 } : Room).cells ({ frames := 0, cells := 0, slots := 0, locals := 0 } : Room).slots) := by
  refine MetFree.of_bodySF (plainFor_of_name pn_4) hisR ?_
  intro p e s m args below meth c s₁ Bd hml0 hP hK
  obtain ⟨rfl, hZ, hh⟩ := hP
  have hx := Bd.exec
  have hby := Bd.bytes
  have hml : c.maxLocals = 3 := hml0
  have hown : s.vm.findClass "com/example/quantiscope/quantiscope/threshold/Bins" = some m.cls := findClass_of_methodNamed Bd.named
  have hnm := (name_of_methodNamed Bd.named Bd.method).1
  have X0 : Stand p l e ({ frames := 0, cells := 0, slots := 0, locals := 0 } : Room) s m #[(.ref a1), (.int (Int32.ofNat A)), (.int (Int32.ofNat B))] below meth c s₁ [] 0 0 := Stand.of_body Bd
  have e0 : s₁.heap = h0 := by rw [← hh, Bd.state]; rfl
  have N0 := Fr.nil n0
  have pre0 : ∀ t, Steps p.tables e below (s₁.setTop (mkF m 0 #[.val (.ref a1), .val (.int (Int32.ofNat A)), .val (.int (Int32.ofNat B))] [])) t → Steps p.tables e below (s₁.setTop (entryFrame m #[(.ref a1), (.int (Int32.ofNat A)), (.int (Int32.ofNat B))] 3)) t := fun t k => castTop (ef_4_xxx m a1 (Int32.ofNat A) (Int32.ofNat B)) k
  have J1 : ∀ t, Steps p.tables e below (s₁.setTop (mkF m 2 #[.val (.ref a1), .val (.int (Int32.ofNat A)), .val (.int (Int32.ofNat B))] [(.int (Int32.ofNat B)), (.int (Int32.ofNat A))])) t → Steps p.tables e below (s₁.setTop (entryFrame m #[(.ref a1), (.int (Int32.ofNat A)), (.int (Int32.ofNat B))] 3)) t := fun t k => pre0 t (by
      show Steps p.tables e below (s₁.setTop (mkF m 0 #[.val (.ref a1), .val (.int (Int32.ofNat A)), .val (.int (Int32.ofNat B))] [])) _
      refine XS.iloadN X0.here hx rfl (hb hby d4_0) rfl ?_
      show Steps p.tables e below (s₁.setTop (mkF m 1 #[.val (.ref a1), .val (.int (Int32.ofNat A)), .val (.int (Int32.ofNat B))] [(.int (Int32.ofNat A))])) _
      refine XS.iloadN X0.here hx rfl (hb hby d4_1) rfl ?_
      exact k)
  by_cases h1 : B < A
  ·
    have J2 : ∀ t, Steps p.tables e below (s₁.setTop (mkF m 24 #[.val (.ref a1), .val (.int (Int32.ofNat A)), .val (.int (Int32.ofNat B))] [(.long (0 : Int64))])) t → Steps p.tables e below (s₁.setTop (entryFrame m #[(.ref a1), (.int (Int32.ofNat A)), (.int (Int32.ofNat B))] 3)) t := fun t k => J1 t (by
        show Steps p.tables e below (s₁.setTop (mkF m 2 #[.val (.ref a1), .val (.int (Int32.ofNat A)), .val (.int (Int32.ofNat B))] [(.int (Int32.ofNat B)), (.int (Int32.ofNat A))])) _
        refine XS.icmpNo X0.here hx rfl (hb hby d4_2) rfl (tlt (own_lt h1 (by omega))).2.2.2 ?_
        show Steps p.tables e below (s₁.setTop (mkF m 5 #[.val (.ref a1), .val (.int (Int32.ofNat A)), .val (.int (Int32.ofNat B))] [])) _
        refine XS.lconst X0.here hx rfl (hb hby d4_5) ?_
        show Steps p.tables e below (s₁.setTop (mkF m 6 #[.val (.ref a1), .val (.int (Int32.ofNat A)), .val (.int (Int32.ofNat B))] [(.long (0 : Int64))])) _
        refine XS.goto X0.here hx rfl (pc0 := 6) (pc' := 24) rfl (hb hby d4_6) (by decide) (by decide) ?_
        exact k)
    obtain ⟨fs, hr, hrun, hended, hW, hsame⟩ := X0.leave (v := some (.long (0 : Int64))) (fun h => by rw [Bd.returns] at h; cases h)
    refine ⟨_, _, J2 _ ?_, hrun, hended, _, _, rfl, ?_, ⟨_, rfl⟩, hW, hsame.mono (by decide) (by decide)⟩
    · show Steps p.tables e below (s₁.setTop (mkF m 24 #[.val (.ref a1), .val (.int (Int32.ofNat A)), .val (.int (Int32.ofNat B))] [(.long (0 : Int64))])) _
      exact retJ X0 hx Bd.returns (hb hby d4_24) hr
    · show Q4 Z a1 b1 cl x0 x1 x2 x3 A B h0 n0 _ s₁.heap _
      rw [e0]
      exact ⟨(by rw [show own_cnt x0 x1 x2 x3 A B = 0 from if_pos h1]), N0, rfl⟩
  ·
    have J3 : ∀ t, Steps p.tables e below (s₁.setTop (mkF m 10 #[.val (.ref a1), .val (.int (Int32.ofNat A)), .val (.int (Int32.ofNat B))] [(.ref a1)])) t → Steps p.tables e below (s₁.setTop (entryFrame m #[(.ref a1), (.int (Int32.ofNat A)), (.int (Int32.ofNat B))] 3)) t := fun t k => J1 t (by
        show Steps p.tables e below (s₁.setTop (mkF m 2 #[.val (.ref a1), .val (.int (Int32.ofNat A)), .val (.int (Int32.ofNat B))] [(.int (Int32.ofNat B)), (.int (Int32.ofNat A))])) _
        refine XS.icmpYes X0.here hx rfl (pc0 := 2) (pc' := 9) rfl (hb hby d4_2) rfl (flt (own_nlt (by omega) (by omega))).2.2.2 (by decide) (by decide) ?_
        show Steps p.tables e below (s₁.setTop (mkF m 9 #[.val (.ref a1), .val (.int (Int32.ofNat A)), .val (.int (Int32.ofNat B))] [])) _
        refine XS.aloadN X0.here hx rfl (hb hby d4_9) rfl rfl ?_
        exact k)
    obtain ⟨T4, X4, e4, st4⟩ := getF X0 hx hZ hown (host := "") (Or.inl (hw _ (List.mem_of_getElem? (i := 10) rfl))) Via.refl e0 F_counts_a1 (g := (mkF m 10 #[.val (.ref a1), .val (.int (Int32.ofNat A)), .val (.int (Int32.ofNat B))] [(.ref a1)])) rfl rfl (hb hby d4_10)
    have J5 : ∀ t, Steps p.tables e below (T4.setTop (mkF m 13 #[.val (.ref a1), .val (.int (Int32.ofNat A)), .val (.int (Int32.ofNat B))] [(.ref b1)])) t → Steps p.tables e below (s₁.setTop (entryFrame m #[(.ref a1), (.int (Int32.ofNat A)), (.int (Int32.ofNat B))] 3)) t := fun t k => J3 t (st4 t k)
    have J6 : ∀ t, Steps p.tables e below (T4.setTop (mkF m 16 #[.val (.ref a1), .val (.int (Int32.ofNat A)), .val (.int (Int32.ofNat B))] [(.int ((Int32.ofNat B) + (1 : Int32))), (.ref b1)])) t → Steps p.tables e below (s₁.setTop (entryFrame m #[(.ref a1), (.int (Int32.ofNat A)), (.int (Int32.ofNat B))] 3)) t := fun t k => J5 t (by
        show Steps p.tables e below (T4.setTop (mkF m 13 #[.val (.ref a1), .val (.int (Int32.ofNat A)), .val (.int (Int32.ofNat B))] [(.ref b1)])) _
        refine XS.iloadN X4.here hx rfl (hb hby d4_13) rfl ?_
        show Steps p.tables e below (T4.setTop (mkF m 14 #[.val (.ref a1), .val (.int (Int32.ofNat A)), .val (.int (Int32.ofNat B))] [(.int (Int32.ofNat B)), (.ref b1)])) _
        refine XS.iconst X4.here hx rfl (hb hby d4_14) ?_
        show Steps p.tables e below (T4.setTop (mkF m 15 #[.val (.ref a1), .val (.int (Int32.ofNat A)), .val (.int (Int32.ofNat B))] [(.int (1 : Int32)), (.int (Int32.ofNat B)), (.ref b1)])) _
        refine XS.iadd X4.here hx rfl (hb hby d4_15) rfl ?_
        exact k)
    have J7 : ∀ t, Steps p.tables e below (T4.setTop (mkF m 16 #[.val (.ref a1), .val (.int (Int32.ofNat A)), .val (.int (Int32.ofNat B))] [(.int (Int32.ofNat (B + 1))), (.ref b1)])) t → Steps p.tables e below (s₁.setTop (entryFrame m #[(.ref a1), (.int (Int32.ofNat A)), (.int (Int32.ofNat B))] 3)) t := fun t k => J6 t (by rw [own_inc]; exact k)
    have J8 : ∀ t, Steps p.tables e below (T4.setTop (mkF m 18 #[.val (.ref a1), .val (.int (Int32.ofNat A)), .val (.int (Int32.ofNat B))] [(.ref a1), (.long (own_c x0 x1 x2 x3 (B + 1)))])) t → Steps p.tables e below (s₁.setTop (entryFrame m #[(.ref a1), (.int (Int32.ofNat A)), (.int (Int32.ofNat B))] 3)) t := fun t k => J7 t (by
        show Steps p.tables e below (T4.setTop (mkF m 16 #[.val (.ref a1), .val (.int (Int32.ofNat A)), .val (.int (Int32.ofNat B))] [(.int (Int32.ofNat (B + 1))), (.ref b1)])) _
        refine X4.laload hx (j := (Int32.ofNat (B + 1))) (v := (.long (own_c x0 x1 x2 x3 (B + 1)))) (by rw [e4]; exact Ar_b1.1) (State.isArrayOf_alike hZ.alike Ar_b1.2.1) Ar_b1.2.2 (own_inb L (own_nn (by omega)) (own_n32 (by omega)) (by omega : (B + 1) < 5)) (own_at L (own_n32 (by omega)) (by omega : (B + 1) < 5) rfl) (g := (mkF m 16 #[.val (.ref a1), .val (.int (Int32.ofNat A)), .val (.int (Int32.ofNat B))] [(.int (Int32.ofNat (B + 1))), (.ref b1)])) rfl rfl (hb hby d4_16) _ ?_
        show Steps p.tables e below (T4.setTop (mkF m 17 #[.val (.ref a1), .val (.int (Int32.ofNat A)), .val (.int (Int32.ofNat B))] [(.long (own_c x0 x1 x2 x3 (B + 1)))])) _
        refine XS.aloadN X4.here hx rfl (hb hby d4_17) rfl rfl ?_
        exact k)
    obtain ⟨T9, X9, e9, st9⟩ := getF X4 hx hZ hown (host := "") (Or.inl (hw _ (List.mem_of_getElem? (i := 10) rfl))) Via.refl e4 F_counts_a1 (g := (mkF m 18 #[.val (.ref a1), .val (.int (Int32.ofNat A)), .val (.int (Int32.ofNat B))] [(.ref a1), (.long (own_c x0 x1 x2 x3 (B + 1)))])) rfl rfl (hb hby d4_18)
    have J10 : ∀ t, Steps p.tables e below (T9.setTop (mkF m 21 #[.val (.ref a1), .val (.int (Int32.ofNat A)), .val (.int (Int32.ofNat B))] [(.ref b1), (.long (own_c x0 x1 x2 x3 (B + 1)))])) t → Steps p.tables e below (s₁.setTop (entryFrame m #[(.ref a1), (.int (Int32.ofNat A)), (.int (Int32.ofNat B))] 3)) t := fun t k => J8 t (st9 t k)
    have J11 : ∀ t, Steps p.tables e below (T9.setTop (mkF m 24 #[.val (.ref a1), .val (.int (Int32.ofNat A)), .val (.int (Int32.ofNat B))] [(.long ((own_c x0 x1 x2 x3 (B + 1)) - (own_c x0 x1 x2 x3 A)))])) t → Steps p.tables e below (s₁.setTop (entryFrame m #[(.ref a1), (.int (Int32.ofNat A)), (.int (Int32.ofNat B))] 3)) t := fun t k => J10 t (by
        show Steps p.tables e below (T9.setTop (mkF m 21 #[.val (.ref a1), .val (.int (Int32.ofNat A)), .val (.int (Int32.ofNat B))] [(.ref b1), (.long (own_c x0 x1 x2 x3 (B + 1)))])) _
        refine XS.iloadN X9.here hx rfl (hb hby d4_21) rfl ?_
        show Steps p.tables e below (T9.setTop (mkF m 22 #[.val (.ref a1), .val (.int (Int32.ofNat A)), .val (.int (Int32.ofNat B))] [(.int (Int32.ofNat A)), (.ref b1), (.long (own_c x0 x1 x2 x3 (B + 1)))])) _
        refine X9.laload hx (j := (Int32.ofNat A)) (v := (.long (own_c x0 x1 x2 x3 A))) (by rw [e9]; exact Ar_b1.1) (State.isArrayOf_alike hZ.alike Ar_b1.2.1) Ar_b1.2.2 (own_inb L (own_nn (by omega)) (own_n32 (by omega)) (by omega : A < 5)) (own_at L (own_n32 (by omega)) (by omega : A < 5) rfl) (g := (mkF m 22 #[.val (.ref a1), .val (.int (Int32.ofNat A)), .val (.int (Int32.ofNat B))] [(.int (Int32.ofNat A)), (.ref b1), (.long (own_c x0 x1 x2 x3 (B + 1)))])) rfl rfl (hb hby d4_22) _ ?_
        show Steps p.tables e below (T9.setTop (mkF m 23 #[.val (.ref a1), .val (.int (Int32.ofNat A)), .val (.int (Int32.ofNat B))] [(.long (own_c x0 x1 x2 x3 A)), (.long (own_c x0 x1 x2 x3 (B + 1)))])) _
        refine XS.lsub X9.here hx rfl (hb hby d4_23) rfl ?_
        exact k)
    obtain ⟨fs, hr, hrun, hended, hW, hsame⟩ := X9.leave (v := some (.long ((own_c x0 x1 x2 x3 (B + 1)) - (own_c x0 x1 x2 x3 A)))) (fun h => by rw [Bd.returns] at h; cases h)
    refine ⟨_, _, J11 _ ?_, hrun, hended, _, _, rfl, ?_, ⟨_, rfl⟩, hW, hsame.mono (by decide) (by decide)⟩
    · show Steps p.tables e below (T9.setTop (mkF m 24 #[.val (.ref a1), .val (.int (Int32.ofNat A)), .val (.int (Int32.ofNat B))] [(.long ((own_c x0 x1 x2 x3 (B + 1)) - (own_c x0 x1 x2 x3 A)))])) _
      exact retJ X9 hx Bd.returns (hb hby d4_24) hr
    · show Q4 Z a1 b1 cl x0 x1 x2 x3 A B h0 n0 _ T9.heap _
      rw [e9]
      exact ⟨(by rw [show own_cnt x0 x1 x2 x3 A B = own_c x0 x1 x2 x3 (B + 1) - own_c x0 x1 x2 x3 A from if_neg h1]), N0, rfl⟩
theorem d1_0 : decode prog_63_method_1_code 0 = .ok (.aload_n 0, 1) := by decide +kernel
theorem d1_1 : decode prog_63_method_1_code 1 = .ok (.invokespecial 1, 3) := by decide +kernel
theorem d1_4 : decode prog_63_method_1_code 4 = .ok (.aload_n 0, 1) := by decide +kernel
theorem d1_5 : decode prog_63_method_1_code 5 = .ok (.aload_n 1, 1) := by decide +kernel
theorem d1_6 : decode prog_63_method_1_code 6 = .ok (.arraylength, 1) := by decide +kernel
theorem d1_7 : decode prog_63_method_1_code 7 = .ok (.iconst 1, 1) := by decide +kernel
theorem d1_8 : decode prog_63_method_1_code 8 = .ok (.iadd, 1) := by decide +kernel
theorem d1_9 : decode prog_63_method_1_code 9 = .ok (.newarray .long, 2) := by decide +kernel
theorem d1_11 : decode prog_63_method_1_code 11 = .ok (.putfield 7, 3) := by decide +kernel
theorem d1_14 : decode prog_63_method_1_code 14 = .ok (.aload_n 0, 1) := by decide +kernel
theorem d1_15 : decode prog_63_method_1_code 15 = .ok (.aload_n 1, 1) := by decide +kernel
theorem d1_16 : decode prog_63_method_1_code 16 = .ok (.arraylength, 1) := by decide +kernel
theorem d1_17 : decode prog_63_method_1_code 17 = .ok (.iconst 1, 1) := by decide +kernel
theorem d1_18 : decode prog_63_method_1_code 18 = .ok (.iadd, 1) := by decide +kernel
theorem d1_19 : decode prog_63_method_1_code 19 = .ok (.newarray .long, 2) := by decide +kernel
theorem d1_21 : decode prog_63_method_1_code 21 = .ok (.putfield 13, 3) := by decide +kernel
theorem d1_24 : decode prog_63_method_1_code 24 = .ok (.aload_n 0, 1) := by decide +kernel
theorem d1_25 : decode prog_63_method_1_code 25 = .ok (.aload_n 1, 1) := by decide +kernel
theorem d1_26 : decode prog_63_method_1_code 26 = .ok (.arraylength, 1) := by decide +kernel
theorem d1_27 : decode prog_63_method_1_code 27 = .ok (.iconst 1, 1) := by decide +kernel
theorem d1_28 : decode prog_63_method_1_code 28 = .ok (.iadd, 1) := by decide +kernel
theorem d1_29 : decode prog_63_method_1_code 29 = .ok (.newarray .double, 2) := by decide +kernel
theorem d1_31 : decode prog_63_method_1_code 31 = .ok (.putfield 16, 3) := by decide +kernel
theorem d1_34 : decode prog_63_method_1_code 34 = .ok (.iconst 0, 1) := by decide +kernel
theorem d1_35 : decode prog_63_method_1_code 35 = .ok (.istore_n 2, 1) := by decide +kernel
theorem d1_36 : decode prog_63_method_1_code 36 = .ok (.iload_n 2, 1) := by decide +kernel
theorem d1_37 : decode prog_63_method_1_code 37 = .ok (.aload_n 1, 1) := by decide +kernel
theorem d1_38 : decode prog_63_method_1_code 38 = .ok (.arraylength, 1) := by decide +kernel
theorem d1_39 : decode prog_63_method_1_code 39 = .ok (.if_icmp .ge 73, 3) := by decide +kernel
theorem d1_42 : decode prog_63_method_1_code 42 = .ok (.aload_n 0, 1) := by decide +kernel
theorem d1_43 : decode prog_63_method_1_code 43 = .ok (.getfield 7, 3) := by decide +kernel
theorem d1_46 : decode prog_63_method_1_code 46 = .ok (.iload_n 2, 1) := by decide +kernel
theorem d1_47 : decode prog_63_method_1_code 47 = .ok (.iconst 1, 1) := by decide +kernel
theorem d1_48 : decode prog_63_method_1_code 48 = .ok (.iadd, 1) := by decide +kernel
theorem d1_49 : decode prog_63_method_1_code 49 = .ok (.aload_n 0, 1) := by decide +kernel
theorem d1_50 : decode prog_63_method_1_code 50 = .ok (.getfield 7, 3) := by decide +kernel
theorem d1_53 : decode prog_63_method_1_code 53 = .ok (.iload_n 2, 1) := by decide +kernel
theorem d1_54 : decode prog_63_method_1_code 54 = .ok (.laload, 1) := by decide +kernel
theorem d1_55 : decode prog_63_method_1_code 55 = .ok (.aload_n 1, 1) := by decide +kernel
theorem d1_56 : decode prog_63_method_1_code 56 = .ok (.iload_n 2, 1) := by decide +kernel
theorem d1_57 : decode prog_63_method_1_code 57 = .ok (.laload, 1) := by decide +kernel
theorem d1_58 : decode prog_63_method_1_code 58 = .ok (.ladd, 1) := by decide +kernel
theorem d1_59 : decode prog_63_method_1_code 59 = .ok (.lastore, 1) := by decide +kernel
theorem d1_60 : decode prog_63_method_1_code 60 = .ok (.aload_n 0, 1) := by decide +kernel
theorem d1_61 : decode prog_63_method_1_code 61 = .ok (.getfield 13, 3) := by decide +kernel
theorem d1_64 : decode prog_63_method_1_code 64 = .ok (.iload_n 2, 1) := by decide +kernel
theorem d1_65 : decode prog_63_method_1_code 65 = .ok (.iconst 1, 1) := by decide +kernel
theorem d1_66 : decode prog_63_method_1_code 66 = .ok (.iadd, 1) := by decide +kernel
theorem d1_67 : decode prog_63_method_1_code 67 = .ok (.aload_n 0, 1) := by decide +kernel
theorem d1_68 : decode prog_63_method_1_code 68 = .ok (.getfield 13, 3) := by decide +kernel
theorem d1_71 : decode prog_63_method_1_code 71 = .ok (.iload_n 2, 1) := by decide +kernel
theorem d1_72 : decode prog_63_method_1_code 72 = .ok (.laload, 1) := by decide +kernel
theorem d1_73 : decode prog_63_method_1_code 73 = .ok (.iload_n 2, 1) := by decide +kernel
theorem d1_74 : decode prog_63_method_1_code 74 = .ok (.i2l, 1) := by decide +kernel
theorem d1_75 : decode prog_63_method_1_code 75 = .ok (.aload_n 1, 1) := by decide +kernel
theorem d1_76 : decode prog_63_method_1_code 76 = .ok (.iload_n 2, 1) := by decide +kernel
theorem d1_77 : decode prog_63_method_1_code 77 = .ok (.laload, 1) := by decide +kernel
theorem d1_78 : decode prog_63_method_1_code 78 = .ok (.lmul, 1) := by decide +kernel
theorem d1_79 : decode prog_63_method_1_code 79 = .ok (.ladd, 1) := by decide +kernel
theorem d1_80 : decode prog_63_method_1_code 80 = .ok (.lastore, 1) := by decide +kernel
theorem d1_81 : decode prog_63_method_1_code 81 = .ok (.aload_n 0, 1) := by decide +kernel
theorem d1_82 : decode prog_63_method_1_code 82 = .ok (.getfield 16, 3) := by decide +kernel
theorem d1_85 : decode prog_63_method_1_code 85 = .ok (.iload_n 2, 1) := by decide +kernel
theorem d1_86 : decode prog_63_method_1_code 86 = .ok (.iconst 1, 1) := by decide +kernel
theorem d1_87 : decode prog_63_method_1_code 87 = .ok (.iadd, 1) := by decide +kernel
theorem d1_88 : decode prog_63_method_1_code 88 = .ok (.aload_n 0, 1) := by decide +kernel
theorem d1_89 : decode prog_63_method_1_code 89 = .ok (.getfield 16, 3) := by decide +kernel
theorem d1_92 : decode prog_63_method_1_code 92 = .ok (.iload_n 2, 1) := by decide +kernel
theorem d1_93 : decode prog_63_method_1_code 93 = .ok (.daload, 1) := by decide +kernel
theorem d1_94 : decode prog_63_method_1_code 94 = .ok (.iload_n 2, 1) := by decide +kernel
theorem d1_95 : decode prog_63_method_1_code 95 = .ok (.i2d, 1) := by decide +kernel
theorem d1_96 : decode prog_63_method_1_code 96 = .ok (.iload_n 2, 1) := by decide +kernel
theorem d1_97 : decode prog_63_method_1_code 97 = .ok (.i2d, 1) := by decide +kernel
theorem d1_98 : decode prog_63_method_1_code 98 = .ok (.dmul, 1) := by decide +kernel
theorem d1_99 : decode prog_63_method_1_code 99 = .ok (.aload_n 1, 1) := by decide +kernel
theorem d1_100 : decode prog_63_method_1_code 100 = .ok (.iload_n 2, 1) := by decide +kernel
theorem d1_101 : decode prog_63_method_1_code 101 = .ok (.laload, 1) := by decide +kernel
theorem d1_102 : decode prog_63_method_1_code 102 = .ok (.l2d, 1) := by decide +kernel
theorem d1_103 : decode prog_63_method_1_code 103 = .ok (.dmul, 1) := by decide +kernel
theorem d1_104 : decode prog_63_method_1_code 104 = .ok (.dadd, 1) := by decide +kernel
theorem d1_105 : decode prog_63_method_1_code 105 = .ok (.dastore, 1) := by decide +kernel
theorem d1_106 : decode prog_63_method_1_code 106 = .ok (.iinc 2 1, 3) := by decide +kernel
theorem d1_109 : decode prog_63_method_1_code 109 = .ok (.goto (-73), 3) := by decide +kernel
theorem d1_112 : decode prog_63_method_1_code 112 = .ok (.return_, 1) := by decide +kernel
theorem pn_1 : plainName "com/example/quantiscope/quantiscope/threshold/Bins" = true := by first | (simp [plainName, overriddenIn]; done) | decide +kernel
theorem ef_1_xx (m : MethodId) (x0 : Addr) (x1 : Addr) : entryFrame m #[(.ref x0), (.ref x1)] 3 = mkF m 0 #[.val (.ref x0), .val (.ref x1), .unset] [] := by first | (simp [entryFrame, mkF, argsToLocals, Value.category]; done) | rfl
def Q1 (Z : State) (a1 : Addr) (a2 : Addr) (clh : Cell) (u1 : Value) (u2 : Value) (u3 : Value) (x0 : Int64) (x1 : Int64) (x2 : Int64) (x3 : Int64) (h0 : Heap) (n0 : Nat) (v : Option Value) (h : Heap) (L : List Loc) : Prop := ∃ (b1 : Addr) (cl1 : Cell), v = none ∧ Fr n0 L ∧ Keep h0 h [a1] ∧ (Exa Z h a1 "com/example/quantiscope/quantiscope/threshold/Bins") ∧ (Fld Z h a1 "com/example/quantiscope/quantiscope/threshold/Bins" "counts" "[J" (.ref b1)) ∧ (Arr Z h b1 cl1 .long) ∧ (own_LA cl1 5 (fun j => .long (own_c x0 x1 x2 x3 j)))
set_option maxRecDepth 65536 in
set_option maxHeartbeats 40000000 in
theorem rm1 (l : Launch) (Z : State) (a0 : Array Value) (hw : ∀ d ∈ tables_1, d.before a0 Z = true) (ws : List Jvm.Cond) (a1 : Addr) (a2 : Addr) (clh : Cell) (u1 : Value) (u2 : Value) (u3 : Value) (x0 : Int64) (x1 : Int64) (x2 : Int64) (x3 : Int64) (h0 : Heap) (n0 : Nat) (Z0 : n0 ≤ h0.size) (E_a1 : Exa Z h0 a1 "com/example/quantiscope/quantiscope/threshold/Bins") (g_a1 : n0 ≤ a1) (ne_a2_a1 : a2 ≠ a1) (F_counts_a1 : Fld Z h0 a1 "com/example/quantiscope/quantiscope/threshold/Bins" "counts" "[J" u1) (F_sums_a1 : Fld Z h0 a1 "com/example/quantiscope/quantiscope/threshold/Bins" "sums" "[J" u2) (F_squares_a1 : Fld Z h0 a1 "com/example/quantiscope/quantiscope/threshold/Bins" "squares" "[D" u3) (Ar_a2 : Arr Z h0 a2 clh .long) (Lh : own_LA clh 4 (own_h x0 x1 x2 x3)) :
    MetFree l (⟨"com/example/quantiscope/quantiscope/threshold/Bins", "<init>", "([J)V"⟩ : MethodName) (head1 (Jvm.Cond.code (⟨"com/example/quantiscope/quantiscope/threshold/Bins", "<init>", "([J)V"⟩ : MethodName) prog_63_method_1_code 3 none :: ws) ({ frames := 1, cells := 3, slots := 15, locals := 12 } : Room)) (fun a U => a = #[(.ref a1), (.ref a2)] ∧ Z.Warmed39 U.vm ∧ U.heap = h0) (fun _ _ _ _ _ => True) (fun _ U o U' => ∃ v L, o = .returned v ∧ Q1 Z a1 a2 clh u1 u2 u3 x0 x1 x2 x3 h0 n0 v U'.heap L ∧ FrameEnd U o U' L ({ frames := 1, cells := 3, slots := 15, locals := 12 } : Room).cells ({ frames := 1, cells := 3, slots := 15, locals := 12 } : Room).slots) := by
  refine MetFree.of_bodySF (plainFor_of_name pn_1) hisR ?_
  intro p e s m args below meth c s₁ Bd hml0 hP hK
  obtain ⟨rfl, hZ, hh⟩ := hP
  have hx := Bd.exec
  have hby := Bd.bytes
  have hml : c.maxLocals = 3 := hml0
  have hown : s.vm.findClass "com/example/quantiscope/quantiscope/threshold/Bins" = some m.cls := findClass_of_methodNamed Bd.named
  have hnm := (name_of_methodNamed Bd.named Bd.method).1
  have X0 : Stand p l e ({ frames := 1, cells := 3, slots := 15, locals := 12 } : Room) s m #[(.ref a1), (.ref a2)] below meth c s₁ [] 0 0 := Stand.of_body Bd
  have e0 : s₁.heap = h0 := by rw [← hh, Bd.state]; rfl
  have N0 := Fr.nil n0
  have pre0 : ∀ t, Steps p.tables e below (s₁.setTop (mkF m 0 #[.val (.ref a1), .val (.ref a2), .unset] [])) t → Steps p.tables e below (s₁.setTop (entryFrame m #[(.ref a1), (.ref a2)] 3)) t := fun t k => castTop (ef_1_xx m a1 a2) k
  have J1 : ∀ t, Steps p.tables e below (s₁.setTop (mkF m 1 #[.val (.ref a1), .val (.ref a2), .unset] [(.ref a1)])) t → Steps p.tables e below (s₁.setTop (entryFrame m #[(.ref a1), (.ref a2)] 3)) t := fun t k => pre0 t (by
      show Steps p.tables e below (s₁.setTop (mkF m 0 #[.val (.ref a1), .val (.ref a2), .unset] [])) _
      refine XS.aloadN X0.here hx rfl (hb hby d1_0) rfl rfl ?_
      exact k)
  obtain ⟨T2, X2, e2, st2⟩ := initO X0 hx hZ hown (hw _ (List.mem_of_getElem? (i := 7) rfl)) (hw _ (List.mem_of_getElem? (i := 8) rfl)) (hw _ (List.mem_of_getElem? (i := 9) rfl)) e0 (g := (mkF m 1 #[.val (.ref a1), .val (.ref a2), .unset] [(.ref a1)])) rfl (by rw [hml]; rfl) rfl (hb hby d1_1) (by decide) (W := 0) (by show 2 * 0 + _ ≤ _; exact Nat.le_of_eq rfl) (by decide)
  have J3 : ∀ t, Steps p.tables e below (T2.setTop (mkF m 4 #[.val (.ref a1), .val (.ref a2), .unset] [])) t → Steps p.tables e below (s₁.setTop (entryFrame m #[(.ref a1), (.ref a2)] 3)) t := fun t k => J1 t (st2 t k)
  have J4 : ∀ t, Steps p.tables e below (T2.setTop (mkF m 9 #[.val (.ref a1), .val (.ref a2), .unset] [(.int ((Int32.ofNat 4) + (1 : Int32))), (.ref a1)])) t → Steps p.tables e below (s₁.setTop (entryFrame m #[(.ref a1), (.ref a2)] 3)) t := fun t k => J3 t (by
      show Steps p.tables e below (T2.setTop (mkF m 4 #[.val (.ref a1), .val (.ref a2), .unset] [])) _
      refine XS.aloadN X2.here hx rfl (hb hby d1_4) rfl rfl ?_
      show Steps p.tables e below (T2.setTop (mkF m 5 #[.val (.ref a1), .val (.ref a2), .unset] [(.ref a1)])) _
      refine XS.aloadN X2.here hx rfl (hb hby d1_5) rfl rfl ?_
      show Steps p.tables e below (T2.setTop (mkF m 6 #[.val (.ref a1), .val (.ref a2), .unset] [(.ref a2), (.ref a1)])) _
      refine X2.arraylength hx (cell := clh) (by rw [e2]; exact Ar_a2.1) (State.isArrayOf_alike hZ.alike Ar_a2.2.1) (g := (mkF m 6 #[.val (.ref a1), .val (.ref a2), .unset] [(.ref a2), (.ref a1)])) rfl (rest := [(.ref a1)]) rfl (hb hby d1_6) _ ?_
      rw [(own_size Lh)]
      show Steps p.tables e below (T2.setTop (mkF m 7 #[.val (.ref a1), .val (.ref a2), .unset] [(.int (Int32.ofNat 4)), (.ref a1)])) _
      refine XS.iconst X2.here hx rfl (hb hby d1_7) ?_
      show Steps p.tables e below (T2.setTop (mkF m 8 #[.val (.ref a1), .val (.ref a2), .unset] [(.int (1 : Int32)), (.int (Int32.ofNat 4)), (.ref a1)])) _
      refine XS.iadd X2.here hx rfl (hb hby d1_8) rfl ?_
      exact k)
  have J5 : ∀ t, Steps p.tables e below (T2.setTop (mkF m 9 #[.val (.ref a1), .val (.ref a2), .unset] [(.int (5 : Int32)), (.ref a1)])) t → Steps p.tables e below (s₁.setTop (entryFrame m #[(.ref a1), (.ref a2)] 3)) t := fun t k => J4 t (by rw [(by decide : ((Int32.ofNat 4) + (1 : Int32)) = (5 : Int32))]; exact k)
  obtain ⟨T6, h6, k6, X6, e6, E6, A6, st6⟩ := newP X2 hx hZ (hw _ (List.mem_of_getElem? (i := 0) rfl)) e2 (g := (mkF m 9 #[.val (.ref a1), .val (.ref a2), .unset] [(.int (5 : Int32)), (.ref a1)])) rfl (hb hby d1_9) rfl (by decide) (cap := 5) (by decide) (by decide) (by decide) (by decide)
  obtain ⟨b6, g6⟩ : ∃ z, z = h0.size := ⟨_, rfl⟩
  rw [← g6] at A6 st6
  obtain ⟨cl6, hcl6⟩ : ∃ z, z = newA k6 .long (5 : Int32) := ⟨_, rfl⟩
  have Aw6 : Arr Z h6 b6 cl6 .long := by rw [hcl6]; exact A6
  have J7 : ∀ t, Steps p.tables e below (T6.setTop (mkF m 11 #[.val (.ref a1), .val (.ref a2), .unset] [(.ref b6), (.ref a1)])) t → Steps p.tables e below (s₁.setTop (entryFrame m #[(.ref a1), (.ref a2)] 3)) t := fun t k => J5 t (st6 t k)
  have ne8 : a1 ≠ b6 := Nat.ne_of_lt (Nat.lt_of_lt_of_le E_a1.lt (Nat.le_of_eq g6.symm))
  have ne9 : a2 ≠ b6 := Nat.ne_of_lt (Nat.lt_of_lt_of_le Ar_a2.lt (Nat.le_of_eq g6.symm))
  have ge10 : n0 ≤ b6 := Nat.le_trans Z0 (Nat.le_of_eq g6.symm)
  have sz11 : h0.size ≤ b6 := Nat.le_trans (Keep.refl h0 [a1]).1 (Nat.le_of_eq g6.symm)
  have Z12 : n0 ≤ h6.size := Nat.le_trans Z0 E6.1
  have KK13 : Keep h0 h6 [a1] := (Keep.refl h0 [a1]).ext E6
  have L6 := own_LA0 (N := 5) (by decide) hcl6
  have f14 := F_counts_a1.ext E6
  have f15 := E_a1.ext E6
  obtain ⟨T16, h16, X16, e16, W16, st16⟩ := putF X6 hx hZ hown (host := "") (Or.inl (hw _ (List.mem_of_getElem? (i := 10) rfl))) Via.refl e6 f14 f15 (Or.inr ⟨(hw _ (List.mem_of_getElem? (i := 11) rfl)), rfl, hnm⟩) (hw _ (List.mem_of_getElem? (i := 2) rfl)) (ty := (.array .long)) (by decide) rfl rfl (g := (mkF m 11 #[.val (.ref a1), .val (.ref a2), .unset] [(.ref b6), (.ref a1)])) rfl rfl (hb hby d1_11)
  have J17 : ∀ t, Steps p.tables e below (T16.setTop (mkF m 14 #[.val (.ref a1), .val (.ref a2), .unset] [])) t → Steps p.tables e below (s₁.setTop (entryFrame m #[(.ref a1), (.ref a2)] 3)) t := fun t k => J7 t (st16 t k)
  have Z18 : n0 ≤ h16.size := Nat.le_trans Z12 (Keep.of_wr W16).1
  have KK19 : Keep h0 h16 [a1] := KK13.wr W16 (Or.inl (List.mem_of_getElem? (i := 0) rfl))
  have N20 := Fr.snoc X16 N0 g_a1
  have Fw16 := f14.same W16
  have J21 : ∀ t, Steps p.tables e below (T16.setTop (mkF m 16 #[.val (.ref a1), .val (.ref a2), .unset] [(.ref a2), (.ref a1)])) t → Steps p.tables e below (s₁.setTop (entryFrame m #[(.ref a1), (.ref a2)] 3)) t := fun t k => J17 t (by
      show Steps p.tables e below (T16.setTop (mkF m 14 #[.val (.ref a1), .val (.ref a2), .unset] [])) _
      refine XS.aloadN X16.here hx rfl (hb hby d1_14) rfl rfl ?_
      show Steps p.tables e below (T16.setTop (mkF m 15 #[.val (.ref a1), .val (.ref a2), .unset] [(.ref a1)])) _
      refine XS.aloadN X16.here hx rfl (hb hby d1_15) rfl rfl ?_
      exact k)
  have f22 := Ar_a2.ext E6
  have f23 := f22.other W16 ne_a2_a1
  have J24 : ∀ t, Steps p.tables e below (T16.setTop (mkF m 19 #[.val (.ref a1), .val (.ref a2), .unset] [(.int ((Int32.ofNat 4) + (1 : Int32))), (.ref a1)])) t → Steps p.tables e below (s₁.setTop (entryFrame m #[(.ref a1), (.ref a2)] 3)) t := fun t k => J21 t (by
      show Steps p.tables e below (T16.setTop (mkF m 16 #[.val (.ref a1), .val (.ref a2), .unset] [(.ref a2), (.ref a1)])) _
      refine X16.arraylength hx (cell := clh) (by rw [e16]; exact f23.1) (State.isArrayOf_alike hZ.alike f23.2.1) (g := (mkF m 16 #[.val (.ref a1), .val (.ref a2), .unset] [(.ref a2), (.ref a1)])) rfl (rest := [(.ref a1)]) rfl (hb hby d1_16) _ ?_
      rw [(own_size Lh)]
      show Steps p.tables e below (T16.setTop (mkF m 17 #[.val (.ref a1), .val (.ref a2), .unset] [(.int (Int32.ofNat 4)), (.ref a1)])) _
      refine XS.iconst X16.here hx rfl (hb hby d1_17) ?_
      show Steps p.tables e below (T16.setTop (mkF m 18 #[.val (.ref a1), .val (.ref a2), .unset] [(.int (1 : Int32)), (.int (Int32.ofNat 4)), (.ref a1)])) _
      refine XS.iadd X16.here hx rfl (hb hby d1_18) rfl ?_
      exact k)
  have J25 : ∀ t, Steps p.tables e below (T16.setTop (mkF m 19 #[.val (.ref a1), .val (.ref a2), .unset] [(.int (5 : Int32)), (.ref a1)])) t → Steps p.tables e below (s₁.setTop (entryFrame m #[(.ref a1), (.ref a2)] 3)) t := fun t k => J24 t (by rw [(by decide : ((Int32.ofNat 4) + (1 : Int32)) = (5 : Int32))]; exact k)
  have f27 := f15.wr W16
  have f28 := Aw6.other W16 (Ne.symm ne8)
  obtain ⟨T26, h26, k26, X26, e26, E26, A26, st26⟩ := newP X16 hx hZ (hw _ (List.mem_of_getElem? (i := 0) rfl)) e16 (g := (mkF m 19 #[.val (.ref a1), .val (.ref a2), .unset] [(.int (5 : Int32)), (.ref a1)])) rfl (hb hby d1_19) rfl (by decide) (cap := 5) (by decide) (by decide) (by decide) (by decide)
  obtain ⟨b26, g26⟩ : ∃ z, z = h16.size := ⟨_, rfl⟩
  rw [← g26] at A26 st26
  obtain ⟨cl26, hcl26⟩ : ∃ z, z = newA k26 .long (5 : Int32) := ⟨_, rfl⟩
  have Aw26 : Arr Z h26 b26 cl26 .long := by rw [hcl26]; exact A26
  have J29 : ∀ t, Steps p.tables e below (T26.setTop (mkF m 21 #[.val (.ref a1), .val (.ref a2), .unset] [(.ref b26), (.ref a1)])) t → Steps p.tables e below (s₁.setTop (entryFrame m #[(.ref a1), (.ref a2)] 3)) t := fun t k => J25 t (st26 t k)
  have ne30 : a1 ≠ b26 := Nat.ne_of_lt (Nat.lt_of_lt_of_le f27.lt (Nat.le_of_eq g26.symm))
  have ne31 : a2 ≠ b26 := Nat.ne_of_lt (Nat.lt_of_lt_of_le f23.lt (Nat.le_of_eq g26.symm))
  have ne32 : b6 ≠ b26 := Nat.ne_of_lt (Nat.lt_of_lt_of_le f28.lt (Nat.le_of_eq g26.symm))
  have ge33 : n0 ≤ b26 := Nat.le_trans Z18 (Nat.le_of_eq g26.symm)
  have sz34 : h0.size ≤ b26 := Nat.le_trans KK19.1 (Nat.le_of_eq g26.symm)
  have Z35 : n0 ≤ h26.size := Nat.le_trans Z18 E26.1
  have KK36 : Keep h0 h26 [a1] := KK19.ext E26
  have L26 := own_LA0 (N := 5) (by decide) hcl26
  have f37 := F_sums_a1.ext E6
  have f38 := f37.other W16 (Or.inr (slot_ne (Or.inr (hw _ (List.mem_of_getElem? (i := 13) rfl))) (Or.inr (hw _ (List.mem_of_getElem? (i := 11) rfl))) (by decide) (t := (.array .long)) (t' := (.array .long)) (by decide) (by decide)))
  have f39 := f38.ext E26
  have f40 := f27.ext E26
  obtain ⟨T41, h41, X41, e41, W41, st41⟩ := putF X26 hx hZ hown (host := "") (Or.inl (hw _ (List.mem_of_getElem? (i := 12) rfl))) Via.refl e26 f39 f40 (Or.inr ⟨(hw _ (List.mem_of_getElem? (i := 13) rfl)), rfl, hnm⟩) (hw _ (List.mem_of_getElem? (i := 2) rfl)) (ty := (.array .long)) (by decide) rfl rfl (g := (mkF m 21 #[.val (.ref a1), .val (.ref a2), .unset] [(.ref b26), (.ref a1)])) rfl rfl (hb hby d1_21)
  have J42 : ∀ t, Steps p.tables e below (T41.setTop (mkF m 24 #[.val (.ref a1), .val (.ref a2), .unset] [])) t → Steps p.tables e below (s₁.setTop (entryFrame m #[(.ref a1), (.ref a2)] 3)) t := fun t k => J29 t (st41 t k)
  have Z43 : n0 ≤ h41.size := Nat.le_trans Z35 (Keep.of_wr W41).1
  have KK44 : Keep h0 h41 [a1] := KK36.wr W41 (Or.inl (List.mem_of_getElem? (i := 0) rfl))
  have N45 := Fr.snoc X41 N20 g_a1
  have Fw41 := f39.same W41
  have J46 : ∀ t, Steps p.tables e below (T41.setTop (mkF m 26 #[.val (.ref a1), .val (.ref a2), .unset] [(.ref a2), (.ref a1)])) t → Steps p.tables e below (s₁.setTop (entryFrame m #[(.ref a1), (.ref a2)] 3)) t := fun t k => J42 t (by
      show Steps p.tables e below (T41.setTop (mkF m 24 #[.val (.ref a1), .val (.ref a2), .unset] [])) _
      refine XS.aloadN X41.here hx rfl (hb hby d1_24) rfl rfl ?_
      show Steps p.tables e below (T41.setTop (mkF m 25 #[.val (.ref a1), .val (.ref a2), .unset] [(.ref a1)])) _
      refine XS.aloadN X41.here hx rfl (hb hby d1_25) rfl rfl ?_
      exact k)
  have f47 := f23.ext E26
  have f48 := f47.other W41 ne_a2_a1
  have J49 : ∀ t, Steps p.tables e below (T41.setTop (mkF m 29 #[.val (.ref a1), .val (.ref a2), .unset] [(.int ((Int32.ofNat 4) + (1 : Int32))), (.ref a1)])) t → Steps p.tables e below (s₁.setTop (entryFrame m #[(.ref a1), (.ref a2)] 3)) t := fun t k => J46 t (by
      show Steps p.tables e below (T41.setTop (mkF m 26 #[.val (.ref a1), .val (.ref a2), .unset] [(.ref a2), (.ref a1)])) _
      refine X41.arraylength hx (cell := clh) (by rw [e41]; exact f48.1) (State.isArrayOf_alike hZ.alike f48.2.1) (g := (mkF m 26 #[.val (.ref a1), .val (.ref a2), .unset] [(.ref a2), (.ref a1)])) rfl (rest := [(.ref a1)]) rfl (hb hby d1_26) _ ?_
      rw [(own_size Lh)]
      show Steps p.tables e below (T41.setTop (mkF m 27 #[.val (.ref a1), .val (.ref a2), .unset] [(.int (Int32.ofNat 4)), (.ref a1)])) _
      refine XS.iconst X41.here hx rfl (hb hby d1_27) ?_
      show Steps p.tables e below (T41.setTop (mkF m 28 #[.val (.ref a1), .val (.ref a2), .unset] [(.int (1 : Int32)), (.int (Int32.ofNat 4)), (.ref a1)])) _
      refine XS.iadd X41.here hx rfl (hb hby d1_28) rfl ?_
      exact k)
  have J50 : ∀ t, Steps p.tables e below (T41.setTop (mkF m 29 #[.val (.ref a1), .val (.ref a2), .unset] [(.int (5 : Int32)), (.ref a1)])) t → Steps p.tables e below (s₁.setTop (entryFrame m #[(.ref a1), (.ref a2)] 3)) t := fun t k => J49 t (by rw [(by decide : ((Int32.ofNat 4) + (1 : Int32)) = (5 : Int32))]; exact k)
  have f52 := f40.wr W41
  have f53 := f28.ext E26
  have f54 := f53.other W41 (Ne.symm ne8)
  have f55 := Aw26.other W41 (Ne.symm ne30)
  obtain ⟨T51, h51, k51, X51, e51, E51, A51, st51⟩ := newP X41 hx hZ (hw _ (List.mem_of_getElem? (i := 14) rfl)) e41 (g := (mkF m 29 #[.val (.ref a1), .val (.ref a2), .unset] [(.int (5 : Int32)), (.ref a1)])) rfl (hb hby d1_29) rfl (by decide) (cap := 5) (by decide) (by decide) (by decide) (by decide)
  obtain ⟨b51, g51⟩ : ∃ z, z = h41.size := ⟨_, rfl⟩
  rw [← g51] at A51 st51
  obtain ⟨cl51, hcl51⟩ : ∃ z, z = newA k51 .double (5 : Int32) := ⟨_, rfl⟩
  have Aw51 : Arr Z h51 b51 cl51 .double := by rw [hcl51]; exact A51
  have J56 : ∀ t, Steps p.tables e below (T51.setTop (mkF m 31 #[.val (.ref a1), .val (.ref a2), .unset] [(.ref b51), (.ref a1)])) t → Steps p.tables e below (s₁.setTop (entryFrame m #[(.ref a1), (.ref a2)] 3)) t := fun t k => J50 t (st51 t k)
  have ne57 : a1 ≠ b51 := Nat.ne_of_lt (Nat.lt_of_lt_of_le f52.lt (Nat.le_of_eq g51.symm))
  have ne58 : a2 ≠ b51 := Nat.ne_of_lt (Nat.lt_of_lt_of_le f48.lt (Nat.le_of_eq g51.symm))
  have ne59 : b6 ≠ b51 := Nat.ne_of_lt (Nat.lt_of_lt_of_le f54.lt (Nat.le_of_eq g51.symm))
  have ne60 : b26 ≠ b51 := Nat.ne_of_lt (Nat.lt_of_lt_of_le f55.lt (Nat.le_of_eq g51.symm))
  have ge61 : n0 ≤ b51 := Nat.le_trans Z43 (Nat.le_of_eq g51.symm)
  have sz62 : h0.size ≤ b51 := Nat.le_trans KK44.1 (Nat.le_of_eq g51.symm)
  have Z63 : n0 ≤ h51.size := Nat.le_trans Z43 E51.1
  have KK64 : Keep h0 h51 [a1] := KK44.ext E51
  have L51 := own_LA0 (N := 5) (by decide) hcl51
  have f65 := F_squares_a1.ext E6
  have f66 := f65.other W16 (Or.inr (slot_ne (Or.inr (hw _ (List.mem_of_getElem? (i := 16) rfl))) (Or.inr (hw _ (List.mem_of_getElem? (i := 11) rfl))) (by decide) (t := (.array .double)) (t' := (.array .long)) (by decide) (by decide)))
  have f67 := f66.ext E26
  have f68 := f67.other W41 (Or.inr (slot_ne (Or.inr (hw _ (List.mem_of_getElem? (i := 16) rfl))) (Or.inr (hw _ (List.mem_of_getElem? (i := 13) rfl))) (by decide) (t := (.array .double)) (t' := (.array .long)) (by decide) (by decide)))
  have f69 := f68.ext E51
  have f70 := f52.ext E51
  obtain ⟨T71, h71, X71, e71, W71, st71⟩ := putF X51 hx hZ hown (host := "") (Or.inl (hw _ (List.mem_of_getElem? (i := 15) rfl))) Via.refl e51 f69 f70 (Or.inr ⟨(hw _ (List.mem_of_getElem? (i := 16) rfl)), rfl, hnm⟩) (hw _ (List.mem_of_getElem? (i := 2) rfl)) (ty := (.array .double)) (by decide) rfl rfl (g := (mkF m 31 #[.val (.ref a1), .val (.ref a2), .unset] [(.ref b51), (.ref a1)])) rfl rfl (hb hby d1_31)
  have J72 : ∀ t, Steps p.tables e below (T71.setTop (mkF m 34 #[.val (.ref a1), .val (.ref a2), .unset] [])) t → Steps p.tables e below (s₁.setTop (entryFrame m #[(.ref a1), (.ref a2)] 3)) t := fun t k => J56 t (st71 t k)
  have Z73 : n0 ≤ h71.size := Nat.le_trans Z63 (Keep.of_wr W71).1
  have KK74 : Keep h0 h71 [a1] := KK64.wr W71 (Or.inl (List.mem_of_getElem? (i := 0) rfl))
  have N75 := Fr.snoc X71 N45 g_a1
  have Fw71 := f69.same W71
  have J76 : ∀ t, Steps p.tables e below (T71.setTop (mkF m 38 #[.val (.ref a1), .val (.ref a2), .val (.int (0 : Int32))] [(.ref a2), (.int (0 : Int32))])) t → Steps p.tables e below (s₁.setTop (entryFrame m #[(.ref a1), (.ref a2)] 3)) t := fun t k => J72 t (by
      show Steps p.tables e below (T71.setTop (mkF m 34 #[.val (.ref a1), .val (.ref a2), .unset] [])) _
      refine XS.iconst X71.here hx rfl (hb hby d1_34) ?_
      show Steps p.tables e below (T71.setTop (mkF m 35 #[.val (.ref a1), .val (.ref a2), .unset] [(.int (0 : Int32))])) _
      refine XS.istoreN X71.here hx rfl (hb hby d1_35) rfl (l' := #[.val (.ref a1), .val (.ref a2), .val (.int (0 : Int32))]) rfl ?_
      show Steps p.tables e below (T71.setTop (mkF m 36 #[.val (.ref a1), .val (.ref a2), .val (.int (0 : Int32))] [])) _
      refine XS.iloadN X71.here hx rfl (hb hby d1_36) rfl ?_
      show Steps p.tables e below (T71.setTop (mkF m 37 #[.val (.ref a1), .val (.ref a2), .val (.int (0 : Int32))] [(.int (0 : Int32))])) _
      refine XS.aloadN X71.here hx rfl (hb hby d1_37) rfl rfl ?_
      exact k)
  have f77 := f48.ext E51
  have f78 := f77.other W71 ne_a2_a1
  have J79 : ∀ t, Steps p.tables e below (T71.setTop (mkF m 43 #[.val (.ref a1), .val (.ref a2), .val (.int (0 : Int32))] [(.ref a1)])) t → Steps p.tables e below (s₁.setTop (entryFrame m #[(.ref a1), (.ref a2)] 3)) t := fun t k => J76 t (by
      show Steps p.tables e below (T71.setTop (mkF m 38 #[.val (.ref a1), .val (.ref a2), .val (.int (0 : Int32))] [(.ref a2), (.int (0 : Int32))])) _
      refine X71.arraylength hx (cell := clh) (by rw [e71]; exact f78.1) (State.isArrayOf_alike hZ.alike f78.2.1) (g := (mkF m 38 #[.val (.ref a1), .val (.ref a2), .val (.int (0 : Int32))] [(.ref a2), (.int (0 : Int32))])) rfl (rest := [(.int (0 : Int32))]) rfl (hb hby d1_38) _ ?_
      rw [(own_size Lh)]
      show Steps p.tables e below (T71.setTop (mkF m 39 #[.val (.ref a1), .val (.ref a2), .val (.int (0 : Int32))] [(.int (Int32.ofNat 4)), (.int (0 : Int32))])) _
      refine XS.icmpNo X71.here hx rfl (hb hby d1_39) rfl (tlt (by decide)).2.1 ?_
      show Steps p.tables e below (T71.setTop (mkF m 42 #[.val (.ref a1), .val (.ref a2), .val (.int (0 : Int32))] [])) _
      refine XS.aloadN X71.here hx rfl (hb hby d1_42) rfl rfl ?_
      exact k)
  have f80 := Fw16.ext E26
  have f81 := f80.other W41 (Or.inr (slot_ne (Or.inr (hw _ (List.mem_of_getElem? (i := 11) rfl))) (Or.inr (hw _ (List.mem_of_getElem? (i := 13) rfl))) (by decide) (t := (.array .long)) (t' := (.array .long)) (by decide) (by decide)))
  have f82 := f81.ext E51
  have f83 := f82.other W71 (Or.inr (slot_ne (Or.inr (hw _ (List.mem_of_getElem? (i := 11) rfl))) (Or.inr (hw _ (List.mem_of_getElem? (i := 16) rfl))) (by decide) (t := (.array .long)) (t' := (.array .double)) (by decide) (by decide)))
  obtain ⟨T84, X84, e84, st84⟩ := getF X71 hx hZ hown (host := "") (Or.inl (hw _ (List.mem_of_getElem? (i := 10) rfl))) Via.refl e71 f83 (g := (mkF m 43 #[.val (.ref a1), .val (.ref a2), .val (.int (0 : Int32))] [(.ref a1)])) rfl rfl (hb hby d1_43)
  have J85 : ∀ t, Steps p.tables e below (T84.setTop (mkF m 46 #[.val (.ref a1), .val (.ref a2), .val (.int (0 : Int32))] [(.ref b6)])) t → Steps p.tables e below (s₁.setTop (entryFrame m #[(.ref a1), (.ref a2)] 3)) t := fun t k => J79 t (st84 t k)
  have J86 : ∀ t, Steps p.tables e below (T84.setTop (mkF m 50 #[.val (.ref a1), .val (.ref a2), .val (.int (0 : Int32))] [(.ref a1), (.int ((0 : Int32) + (1 : Int32))), (.ref b6)])) t → Steps p.tables e below (s₁.setTop (entryFrame m #[(.ref a1), (.ref a2)] 3)) t := fun t k => J85 t (by
      show Steps p.tables e below (T84.setTop (mkF m 46 #[.val (.ref a1), .val (.ref a2), .val (.int (0 : Int32))] [(.ref b6)])) _
      refine XS.iloadN X84.here hx rfl (hb hby d1_46) rfl ?_
      show Steps p.tables e below (T84.setTop (mkF m 47 #[.val (.ref a1), .val (.ref a2), .val (.int (0 : Int32))] [(.int (0 : Int32)), (.ref b6)])) _
      refine XS.iconst X84.here hx rfl (hb hby d1_47) ?_
      show Steps p.tables e below (T84.setTop (mkF m 48 #[.val (.ref a1), .val (.ref a2), .val (.int (0 : Int32))] [(.int (1 : Int32)), (.int (0 : Int32)), (.ref b6)])) _
      refine XS.iadd X84.here hx rfl (hb hby d1_48) rfl ?_
      show Steps p.tables e below (T84.setTop (mkF m 49 #[.val (.ref a1), .val (.ref a2), .val (.int (0 : Int32))] [(.int ((0 : Int32) + (1 : Int32))), (.ref b6)])) _
      refine XS.aloadN X84.here hx rfl (hb hby d1_49) rfl rfl ?_
      exact k)
  obtain ⟨T87, X87, e87, st87⟩ := getF X84 hx hZ hown (host := "") (Or.inl (hw _ (List.mem_of_getElem? (i := 10) rfl))) Via.refl e84 f83 (g := (mkF m 50 #[.val (.ref a1), .val (.ref a2), .val (.int (0 : Int32))] [(.ref a1), (.int ((0 : Int32) + (1 : Int32))), (.ref b6)])) rfl rfl (hb hby d1_50)
  have J88 : ∀ t, Steps p.tables e below (T87.setTop (mkF m 53 #[.val (.ref a1), .val (.ref a2), .val (.int (0 : Int32))] [(.ref b6), (.int ((0 : Int32) + (1 : Int32))), (.ref b6)])) t → Steps p.tables e below (s₁.setTop (entryFrame m #[(.ref a1), (.ref a2)] 3)) t := fun t k => J86 t (st87 t k)
  have J89 : ∀ t, Steps p.tables e below (T87.setTop (mkF m 54 #[.val (.ref a1), .val (.ref a2), .val (.int (0 : Int32))] [(.int (0 : Int32)), (.ref b6), (.int ((0 : Int32) + (1 : Int32))), (.ref b6)])) t → Steps p.tables e below (s₁.setTop (entryFrame m #[(.ref a1), (.ref a2)] 3)) t := fun t k => J88 t (by
      show Steps p.tables e below (T87.setTop (mkF m 53 #[.val (.ref a1), .val (.ref a2), .val (.int (0 : Int32))] [(.ref b6), (.int ((0 : Int32) + (1 : Int32))), (.ref b6)])) _
      refine XS.iloadN X87.here hx rfl (hb hby d1_53) rfl ?_
      exact k)
  have f90 := f54.ext E51
  have f91 := f90.other W71 (Ne.symm ne8)
  have J92 : ∀ t, Steps p.tables e below (T87.setTop (mkF m 59 #[.val (.ref a1), .val (.ref a2), .val (.int (0 : Int32))] [(.long ((0 : Int64) + x0)), (.int ((0 : Int32) + (1 : Int32))), (.ref b6)])) t → Steps p.tables e below (s₁.setTop (entryFrame m #[(.ref a1), (.ref a2)] 3)) t := fun t k => J89 t (by
      show Steps p.tables e below (T87.setTop (mkF m 54 #[.val (.ref a1), .val (.ref a2), .val (.int (0 : Int32))] [(.int (0 : Int32)), (.ref b6), (.int ((0 : Int32) + (1 : Int32))), (.ref b6)])) _
      refine X87.laload hx (j := (0 : Int32)) (v := (.long (0 : Int64))) (by rw [e87]; exact f91.1) (State.isArrayOf_alike hZ.alike f91.2.1) f91.2.2 (own_inb L6 (by decide) (by decide : (0 : Int32).toNatClampNeg = 0) (by decide)) (own_at L6 (by decide : (0 : Int32).toNatClampNeg = 0) (by decide) rfl) (g := (mkF m 54 #[.val (.ref a1), .val (.ref a2), .val (.int (0 : Int32))] [(.int (0 : Int32)), (.ref b6), (.int ((0 : Int32) + (1 : Int32))), (.ref b6)])) rfl rfl (hb hby d1_54) _ ?_
      show Steps p.tables e below (T87.setTop (mkF m 55 #[.val (.ref a1), .val (.ref a2), .val (.int (0 : Int32))] [(.long (0 : Int64)), (.int ((0 : Int32) + (1 : Int32))), (.ref b6)])) _
      refine XS.aloadN X87.here hx rfl (hb hby d1_55) rfl rfl ?_
      show Steps p.tables e below (T87.setTop (mkF m 56 #[.val (.ref a1), .val (.ref a2), .val (.int (0 : Int32))] [(.ref a2), (.long (0 : Int64)), (.int ((0 : Int32) + (1 : Int32))), (.ref b6)])) _
      refine XS.iloadN X87.here hx rfl (hb hby d1_56) rfl ?_
      show Steps p.tables e below (T87.setTop (mkF m 57 #[.val (.ref a1), .val (.ref a2), .val (.int (0 : Int32))] [(.int (0 : Int32)), (.ref a2), (.long (0 : Int64)), (.int ((0 : Int32) + (1 : Int32))), (.ref b6)])) _
      refine X87.laload hx (j := (0 : Int32)) (v := (.long x0)) (by rw [e87]; exact f78.1) (State.isArrayOf_alike hZ.alike f78.2.1) f78.2.2 (own_inb Lh (by decide) (by decide : (0 : Int32).toNatClampNeg = 0) (by decide)) (own_at Lh (by decide : (0 : Int32).toNatClampNeg = 0) (by decide) rfl) (g := (mkF m 57 #[.val (.ref a1), .val (.ref a2), .val (.int (0 : Int32))] [(.int (0 : Int32)), (.ref a2), (.long (0 : Int64)), (.int ((0 : Int32) + (1 : Int32))), (.ref b6)])) rfl rfl (hb hby d1_57) _ ?_
      show Steps p.tables e below (T87.setTop (mkF m 58 #[.val (.ref a1), .val (.ref a2), .val (.int (0 : Int32))] [(.long x0), (.long (0 : Int64)), (.int ((0 : Int32) + (1 : Int32))), (.ref b6)])) _
      refine XS.ladd X87.here hx rfl (hb hby d1_58) rfl ?_
      exact k)
  obtain ⟨T93, h93, X93, e93, W93, st93⟩ := stJ X87 hx hZ e87 f91 (j := ((0 : Int32) + (1 : Int32))) (own_inb L6 (by decide) (by decide : ((0 : Int32) + (1 : Int32)).toNatClampNeg = 1) (by decide)) (g := (mkF m 59 #[.val (.ref a1), .val (.ref a2), .val (.int (0 : Int32))] [(.long ((0 : Int64) + x0)), (.int ((0 : Int32) + (1 : Int32))), (.ref b6)])) rfl rfl (hb hby d1_59)
  have J94 : ∀ t, Steps p.tables e below (T93.setTop (mkF m 60 #[.val (.ref a1), .val (.ref a2), .val (.int (0 : Int32))] [])) t → Steps p.tables e below (s₁.setTop (entryFrame m #[(.ref a1), (.ref a2)] 3)) t := fun t k => J92 t (st93 t k)
  have Z95 : n0 ≤ h93.size := Nat.le_trans Z73 (Keep.of_wr W93).1
  have KK96 : Keep h0 h93 [a1] := KK74.wr W93 (Or.inr sz11)
  have N97 := Fr.snoc X93 N75 ge10
  obtain ⟨cl93, hcl93⟩ : ∃ z, z = cl6.setSlot (((0 : Int32) + (1 : Int32))).toNatClampNeg (.long ((0 : Int64) + x0)) := ⟨_, rfl⟩
  have Aw93 : Arr Z h93 b6 cl93 .long := by rw [hcl93]; exact f91.same W93
  have L93 := own_LAset L6 (by decide : ((0 : Int32) + (1 : Int32)).toNatClampNeg = 1) (by decide) hcl93
  have J98 : ∀ t, Steps p.tables e below (T93.setTop (mkF m 61 #[.val (.ref a1), .val (.ref a2), .val (.int (0 : Int32))] [(.ref a1)])) t → Steps p.tables e below (s₁.setTop (entryFrame m #[(.ref a1), (.ref a2)] 3)) t := fun t k => J94 t (by
      show Steps p.tables e below (T93.setTop (mkF m 60 #[.val (.ref a1), .val (.ref a2), .val (.int (0 : Int32))] [])) _
      refine XS.aloadN X93.here hx rfl (hb hby d1_60) rfl rfl ?_
      exact k)
  have f99 := Fw41.ext E51
  have f100 := f99.other W71 (Or.inr (slot_ne (Or.inr (hw _ (List.mem_of_getElem? (i := 13) rfl))) (Or.inr (hw _ (List.mem_of_getElem? (i := 16) rfl))) (by decide) (t := (.array .long)) (t' := (.array .double)) (by decide) (by decide)))
  have f101 := f100.other W93 (Or.inl ne8)
  obtain ⟨T102, X102, e102, st102⟩ := getF X93 hx hZ hown (host := "") (Or.inl (hw _ (List.mem_of_getElem? (i := 12) rfl))) Via.refl e93 f101 (g := (mkF m 61 #[.val (.ref a1), .val (.ref a2), .val (.int (0 : Int32))] [(.ref a1)])) rfl rfl (hb hby d1_61)
  have J103 : ∀ t, Steps p.tables e below (T102.setTop (mkF m 64 #[.val (.ref a1), .val (.ref a2), .val (.int (0 : Int32))] [(.ref b26)])) t → Steps p.tables e below (s₁.setTop (entryFrame m #[(.ref a1), (.ref a2)] 3)) t := fun t k => J98 t (st102 t k)
  have J104 : ∀ t, Steps p.tables e below (T102.setTop (mkF m 68 #[.val (.ref a1), .val (.ref a2), .val (.int (0 : Int32))] [(.ref a1), (.int ((0 : Int32) + (1 : Int32))), (.ref b26)])) t → Steps p.tables e below (s₁.setTop (entryFrame m #[(.ref a1), (.ref a2)] 3)) t := fun t k => J103 t (by
      show Steps p.tables e below (T102.setTop (mkF m 64 #[.val (.ref a1), .val (.ref a2), .val (.int (0 : Int32))] [(.ref b26)])) _
      refine XS.iloadN X102.here hx rfl (hb hby d1_64) rfl ?_
      show Steps p.tables e below (T102.setTop (mkF m 65 #[.val (.ref a1), .val (.ref a2), .val (.int (0 : Int32))] [(.int (0 : Int32)), (.ref b26)])) _
      refine XS.iconst X102.here hx rfl (hb hby d1_65) ?_
      show Steps p.tables e below (T102.setTop (mkF m 66 #[.val (.ref a1), .val (.ref a2), .val (.int (0 : Int32))] [(.int (1 : Int32)), (.int (0 : Int32)), (.ref b26)])) _
      refine XS.iadd X102.here hx rfl (hb hby d1_66) rfl ?_
      show Steps p.tables e below (T102.setTop (mkF m 67 #[.val (.ref a1), .val (.ref a2), .val (.int (0 : Int32))] [(.int ((0 : Int32) + (1 : Int32))), (.ref b26)])) _
      refine XS.aloadN X102.here hx rfl (hb hby d1_67) rfl rfl ?_
      exact k)
  obtain ⟨T105, X105, e105, st105⟩ := getF X102 hx hZ hown (host := "") (Or.inl (hw _ (List.mem_of_getElem? (i := 12) rfl))) Via.refl e102 f101 (g := (mkF m 68 #[.val (.ref a1), .val (.ref a2), .val (.int (0 : Int32))] [(.ref a1), (.int ((0 : Int32) + (1 : Int32))), (.ref b26)])) rfl rfl (hb hby d1_68)
  have J106 : ∀ t, Steps p.tables e below (T105.setTop (mkF m 71 #[.val (.ref a1), .val (.ref a2), .val (.int (0 : Int32))] [(.ref b26), (.int ((0 : Int32) + (1 : Int32))), (.ref b26)])) t → Steps p.tables e below (s₁.setTop (entryFrame m #[(.ref a1), (.ref a2)] 3)) t := fun t k => J104 t (st105 t k)
  have J107 : ∀ t, Steps p.tables e below (T105.setTop (mkF m 72 #[.val (.ref a1), .val (.ref a2), .val (.int (0 : Int32))] [(.int (0 : Int32)), (.ref b26), (.int ((0 : Int32) + (1 : Int32))), (.ref b26)])) t → Steps p.tables e below (s₁.setTop (entryFrame m #[(.ref a1), (.ref a2)] 3)) t := fun t k => J106 t (by
      show Steps p.tables e below (T105.setTop (mkF m 71 #[.val (.ref a1), .val (.ref a2), .val (.int (0 : Int32))] [(.ref b26), (.int ((0 : Int32) + (1 : Int32))), (.ref b26)])) _
      refine XS.iloadN X105.here hx rfl (hb hby d1_71) rfl ?_
      exact k)
  have f108 := f55.ext E51
  have f109 := f108.other W71 (Ne.symm ne30)
  have f110 := f109.other W93 (Ne.symm ne32)
  have J111 : ∀ t, Steps p.tables e below (T105.setTop (mkF m 77 #[.val (.ref a1), .val (.ref a2), .val (.int (0 : Int32))] [(.int (0 : Int32)), (.ref a2), (.long ((0 : Int32).toInt64)), (.long (0 : Int64)), (.int ((0 : Int32) + (1 : Int32))), (.ref b26)])) t → Steps p.tables e below (s₁.setTop (entryFrame m #[(.ref a1), (.ref a2)] 3)) t := fun t k => J107 t (by
      show Steps p.tables e below (T105.setTop (mkF m 72 #[.val (.ref a1), .val (.ref a2), .val (.int (0 : Int32))] [(.int (0 : Int32)), (.ref b26), (.int ((0 : Int32) + (1 : Int32))), (.ref b26)])) _
      refine X105.laload hx (j := (0 : Int32)) (v := (.long (0 : Int64))) (by rw [e105]; exact f110.1) (State.isArrayOf_alike hZ.alike f110.2.1) f110.2.2 (own_inb L26 (by decide) (by decide : (0 : Int32).toNatClampNeg = 0) (by decide)) (own_at L26 (by decide : (0 : Int32).toNatClampNeg = 0) (by decide) rfl) (g := (mkF m 72 #[.val (.ref a1), .val (.ref a2), .val (.int (0 : Int32))] [(.int (0 : Int32)), (.ref b26), (.int ((0 : Int32) + (1 : Int32))), (.ref b26)])) rfl rfl (hb hby d1_72) _ ?_
      show Steps p.tables e below (T105.setTop (mkF m 73 #[.val (.ref a1), .val (.ref a2), .val (.int (0 : Int32))] [(.long (0 : Int64)), (.int ((0 : Int32) + (1 : Int32))), (.ref b26)])) _
      refine XS.iloadN X105.here hx rfl (hb hby d1_73) rfl ?_
      show Steps p.tables e below (T105.setTop (mkF m 74 #[.val (.ref a1), .val (.ref a2), .val (.int (0 : Int32))] [(.int (0 : Int32)), (.long (0 : Int64)), (.int ((0 : Int32) + (1 : Int32))), (.ref b26)])) _
      refine XS.i2l X105.here hx rfl (hb hby d1_74) rfl ?_
      show Steps p.tables e below (T105.setTop (mkF m 75 #[.val (.ref a1), .val (.ref a2), .val (.int (0 : Int32))] [(.long ((0 : Int32).toInt64)), (.long (0 : Int64)), (.int ((0 : Int32) + (1 : Int32))), (.ref b26)])) _
      refine XS.aloadN X105.here hx rfl (hb hby d1_75) rfl rfl ?_
      show Steps p.tables e below (T105.setTop (mkF m 76 #[.val (.ref a1), .val (.ref a2), .val (.int (0 : Int32))] [(.ref a2), (.long ((0 : Int32).toInt64)), (.long (0 : Int64)), (.int ((0 : Int32) + (1 : Int32))), (.ref b26)])) _
      refine XS.iloadN X105.here hx rfl (hb hby d1_76) rfl ?_
      exact k)
  have f112 := f78.other W93 ne9
  have J113 : ∀ t, Steps p.tables e below (T105.setTop (mkF m 80 #[.val (.ref a1), .val (.ref a2), .val (.int (0 : Int32))] [(.long ((0 : Int64) + (((0 : Int32).toInt64) * x0))), (.int ((0 : Int32) + (1 : Int32))), (.ref b26)])) t → Steps p.tables e below (s₁.setTop (entryFrame m #[(.ref a1), (.ref a2)] 3)) t := fun t k => J111 t (by
      show Steps p.tables e below (T105.setTop (mkF m 77 #[.val (.ref a1), .val (.ref a2), .val (.int (0 : Int32))] [(.int (0 : Int32)), (.ref a2), (.long ((0 : Int32).toInt64)), (.long (0 : Int64)), (.int ((0 : Int32) + (1 : Int32))), (.ref b26)])) _
      refine X105.laload hx (j := (0 : Int32)) (v := (.long x0)) (by rw [e105]; exact f112.1) (State.isArrayOf_alike hZ.alike f112.2.1) f112.2.2 (own_inb Lh (by decide) (by decide : (0 : Int32).toNatClampNeg = 0) (by decide)) (own_at Lh (by decide : (0 : Int32).toNatClampNeg = 0) (by decide) rfl) (g := (mkF m 77 #[.val (.ref a1), .val (.ref a2), .val (.int (0 : Int32))] [(.int (0 : Int32)), (.ref a2), (.long ((0 : Int32).toInt64)), (.long (0 : Int64)), (.int ((0 : Int32) + (1 : Int32))), (.ref b26)])) rfl rfl (hb hby d1_77) _ ?_
      show Steps p.tables e below (T105.setTop (mkF m 78 #[.val (.ref a1), .val (.ref a2), .val (.int (0 : Int32))] [(.long x0), (.long ((0 : Int32).toInt64)), (.long (0 : Int64)), (.int ((0 : Int32) + (1 : Int32))), (.ref b26)])) _
      refine XS.lmul X105.here hx rfl (hb hby d1_78) rfl ?_
      show Steps p.tables e below (T105.setTop (mkF m 79 #[.val (.ref a1), .val (.ref a2), .val (.int (0 : Int32))] [(.long (((0 : Int32).toInt64) * x0)), (.long (0 : Int64)), (.int ((0 : Int32) + (1 : Int32))), (.ref b26)])) _
      refine XS.ladd X105.here hx rfl (hb hby d1_79) rfl ?_
      exact k)
  obtain ⟨T114, h114, X114, e114, W114, st114⟩ := stJ X105 hx hZ e105 f110 (j := ((0 : Int32) + (1 : Int32))) (own_inb L26 (by decide) (by decide : ((0 : Int32) + (1 : Int32)).toNatClampNeg = 1) (by decide)) (g := (mkF m 80 #[.val (.ref a1), .val (.ref a2), .val (.int (0 : Int32))] [(.long ((0 : Int64) + (((0 : Int32).toInt64) * x0))), (.int ((0 : Int32) + (1 : Int32))), (.ref b26)])) rfl rfl (hb hby d1_80)
  have J115 : ∀ t, Steps p.tables e below (T114.setTop (mkF m 81 #[.val (.ref a1), .val (.ref a2), .val (.int (0 : Int32))] [])) t → Steps p.tables e below (s₁.setTop (entryFrame m #[(.ref a1), (.ref a2)] 3)) t := fun t k => J113 t (st114 t k)
  have Z116 : n0 ≤ h114.size := Nat.le_trans Z95 (Keep.of_wr W114).1
  have KK117 : Keep h0 h114 [a1] := KK96.wr W114 (Or.inr sz34)
  have N118 := Fr.snoc X114 N97 ge33
  obtain ⟨cl114, hcl114⟩ : ∃ z, z = cl26.setSlot (((0 : Int32) + (1 : Int32))).toNatClampNeg (.long ((0 : Int64) + (((0 : Int32).toInt64) * x0))) := ⟨_, rfl⟩
  have Aw114 : Arr Z h114 b26 cl114 .long := by rw [hcl114]; exact f110.same W114
  have L114 := own_LAset L26 (by decide : ((0 : Int32) + (1 : Int32)).toNatClampNeg = 1) (by decide) hcl114
  have J119 : ∀ t, Steps p.tables e below (T114.setTop (mkF m 82 #[.val (.ref a1), .val (.ref a2), .val (.int (0 : Int32))] [(.ref a1)])) t → Steps p.tables e below (s₁.setTop (entryFrame m #[(.ref a1), (.ref a2)] 3)) t := fun t k => J115 t (by
      show Steps p.tables e below (T114.setTop (mkF m 81 #[.val (.ref a1), .val (.ref a2), .val (.int (0 : Int32))] [])) _
      refine XS.aloadN X114.here hx rfl (hb hby d1_81) rfl rfl ?_
      exact k)
  have f120 := Fw71.other W93 (Or.inl ne8)
  have f121 := f120.other W114 (Or.inl ne30)
  obtain ⟨T122, X122, e122, st122⟩ := getF X114 hx hZ hown (host := "") (Or.inl (hw _ (List.mem_of_getElem? (i := 15) rfl))) Via.refl e114 f121 (g := (mkF m 82 #[.val (.ref a1), .val (.ref a2), .val (.int (0 : Int32))] [(.ref a1)])) rfl rfl (hb hby d1_82)
  have J123 : ∀ t, Steps p.tables e below (T122.setTop (mkF m 85 #[.val (.ref a1), .val (.ref a2), .val (.int (0 : Int32))] [(.ref b51)])) t → Steps p.tables e below (s₁.setTop (entryFrame m #[(.ref a1), (.ref a2)] 3)) t := fun t k => J119 t (st122 t k)
  have J124 : ∀ t, Steps p.tables e below (T122.setTop (mkF m 89 #[.val (.ref a1), .val (.ref a2), .val (.int (0 : Int32))] [(.ref a1), (.int ((0 : Int32) + (1 : Int32))), (.ref b51)])) t → Steps p.tables e below (s₁.setTop (entryFrame m #[(.ref a1), (.ref a2)] 3)) t := fun t k => J123 t (by
      show Steps p.tables e below (T122.setTop (mkF m 85 #[.val (.ref a1), .val (.ref a2), .val (.int (0 : Int32))] [(.ref b51)])) _
      refine XS.iloadN X122.here hx rfl (hb hby d1_85) rfl ?_
      show Steps p.tables e below (T122.setTop (mkF m 86 #[.val (.ref a1), .val (.ref a2), .val (.int (0 : Int32))] [(.int (0 : Int32)), (.ref b51)])) _
      refine XS.iconst X122.here hx rfl (hb hby d1_86) ?_
      show Steps p.tables e below (T122.setTop (mkF m 87 #[.val (.ref a1), .val (.ref a2), .val (.int (0 : Int32))] [(.int (1 : Int32)), (.int (0 : Int32)), (.ref b51)])) _
      refine XS.iadd X122.here hx rfl (hb hby d1_87) rfl ?_
      show Steps p.tables e below (T122.setTop (mkF m 88 #[.val (.ref a1), .val (.ref a2), .val (.int (0 : Int32))] [(.int ((0 : Int32) + (1 : Int32))), (.ref b51)])) _
      refine XS.aloadN X122.here hx rfl (hb hby d1_88) rfl rfl ?_
      exact k)
  obtain ⟨T125, X125, e125, st125⟩ := getF X122 hx hZ hown (host := "") (Or.inl (hw _ (List.mem_of_getElem? (i := 15) rfl))) Via.refl e122 f121 (g := (mkF m 89 #[.val (.ref a1), .val (.ref a2), .val (.int (0 : Int32))] [(.ref a1), (.int ((0 : Int32) + (1 : Int32))), (.ref b51)])) rfl rfl (hb hby d1_89)
  have J126 : ∀ t, Steps p.tables e below (T125.setTop (mkF m 92 #[.val (.ref a1), .val (.ref a2), .val (.int (0 : Int32))] [(.ref b51), (.int ((0 : Int32) + (1 : Int32))), (.ref b51)])) t → Steps p.tables e below (s₁.setTop (entryFrame m #[(.ref a1), (.ref a2)] 3)) t := fun t k => J124 t (st125 t k)
  have J127 : ∀ t, Steps p.tables e below (T125.setTop (mkF m 93 #[.val (.ref a1), .val (.ref a2), .val (.int (0 : Int32))] [(.int (0 : Int32)), (.ref b51), (.int ((0 : Int32) + (1 : Int32))), (.ref b51)])) t → Steps p.tables e below (s₁.setTop (entryFrame m #[(.ref a1), (.ref a2)] 3)) t := fun t k => J126 t (by
      show Steps p.tables e below (T125.setTop (mkF m 92 #[.val (.ref a1), .val (.ref a2), .val (.int (0 : Int32))] [(.ref b51), (.int ((0 : Int32) + (1 : Int32))), (.ref b51)])) _
      refine XS.iloadN X125.here hx rfl (hb hby d1_92) rfl ?_
      exact k)
  have f128 := Aw51.other W71 (Ne.symm ne57)
  have f129 := f128.other W93 (Ne.symm ne59)
  have f130 := f129.other W114 (Ne.symm ne60)
  have J131 : ∀ t, Steps p.tables e below (T125.setTop (mkF m 101 #[.val (.ref a1), .val (.ref a2), .val (.int (0 : Int32))] [(.int (0 : Int32)), (.ref a2), (.double (FP.dmul (FP.i2d (0 : Int32)) (FP.i2d (0 : Int32)))), (.double (0 : UInt64)), (.int ((0 : Int32) + (1 : Int32))), (.ref b51)])) t → Steps p.tables e below (s₁.setTop (entryFrame m #[(.ref a1), (.ref a2)] 3)) t := fun t k => J127 t (by
      show Steps p.tables e below (T125.setTop (mkF m 93 #[.val (.ref a1), .val (.ref a2), .val (.int (0 : Int32))] [(.int (0 : Int32)), (.ref b51), (.int ((0 : Int32) + (1 : Int32))), (.ref b51)])) _
      refine X125.daload hx (j := (0 : Int32)) (v := (.double (0 : UInt64))) (by rw [e125]; exact f130.1) (State.isArrayOf_alike hZ.alike f130.2.1) f130.2.2 (own_inb L51 (by decide) (by decide : (0 : Int32).toNatClampNeg = 0) (by decide)) (own_at L51 (by decide : (0 : Int32).toNatClampNeg = 0) (by decide) rfl) (g := (mkF m 93 #[.val (.ref a1), .val (.ref a2), .val (.int (0 : Int32))] [(.int (0 : Int32)), (.ref b51), (.int ((0 : Int32) + (1 : Int32))), (.ref b51)])) rfl rfl (hb hby d1_93) _ ?_
      show Steps p.tables e below (T125.setTop (mkF m 94 #[.val (.ref a1), .val (.ref a2), .val (.int (0 : Int32))] [(.double (0 : UInt64)), (.int ((0 : Int32) + (1 : Int32))), (.ref b51)])) _
      refine XS.iloadN X125.here hx rfl (hb hby d1_94) rfl ?_
      show Steps p.tables e below (T125.setTop (mkF m 95 #[.val (.ref a1), .val (.ref a2), .val (.int (0 : Int32))] [(.int (0 : Int32)), (.double (0 : UInt64)), (.int ((0 : Int32) + (1 : Int32))), (.ref b51)])) _
      refine XS.i2dS X125.here hx rfl (hb hby d1_95) rfl rfl ?_
      show Steps p.tables e below (T125.setTop (mkF m 96 #[.val (.ref a1), .val (.ref a2), .val (.int (0 : Int32))] [(.double (FP.i2d (0 : Int32))), (.double (0 : UInt64)), (.int ((0 : Int32) + (1 : Int32))), (.ref b51)])) _
      refine XS.iloadN X125.here hx rfl (hb hby d1_96) rfl ?_
      show Steps p.tables e below (T125.setTop (mkF m 97 #[.val (.ref a1), .val (.ref a2), .val (.int (0 : Int32))] [(.int (0 : Int32)), (.double (FP.i2d (0 : Int32))), (.double (0 : UInt64)), (.int ((0 : Int32) + (1 : Int32))), (.ref b51)])) _
      refine XS.i2dS X125.here hx rfl (hb hby d1_97) rfl rfl ?_
      show Steps p.tables e below (T125.setTop (mkF m 98 #[.val (.ref a1), .val (.ref a2), .val (.int (0 : Int32))] [(.double (FP.i2d (0 : Int32))), (.double (FP.i2d (0 : Int32))), (.double (0 : UInt64)), (.int ((0 : Int32) + (1 : Int32))), (.ref b51)])) _
      refine XS.dmulS X125.here hx rfl (hb hby d1_98) rfl (own_n1 _) rfl ?_
      show Steps p.tables e below (T125.setTop (mkF m 99 #[.val (.ref a1), .val (.ref a2), .val (.int (0 : Int32))] [(.double (FP.dmul (FP.i2d (0 : Int32)) (FP.i2d (0 : Int32)))), (.double (0 : UInt64)), (.int ((0 : Int32) + (1 : Int32))), (.ref b51)])) _
      refine XS.aloadN X125.here hx rfl (hb hby d1_99) rfl rfl ?_
      show Steps p.tables e below (T125.setTop (mkF m 100 #[.val (.ref a1), .val (.ref a2), .val (.int (0 : Int32))] [(.ref a2), (.double (FP.dmul (FP.i2d (0 : Int32)) (FP.i2d (0 : Int32)))), (.double (0 : UInt64)), (.int ((0 : Int32) + (1 : Int32))), (.ref b51)])) _
      refine XS.iloadN X125.here hx rfl (hb hby d1_100) rfl ?_
      exact k)
  have f132 := f112.other W114 ne31
  have J133 : ∀ t, Steps p.tables e below (T125.setTop (mkF m 104 #[.val (.ref a1), .val (.ref a2), .val (.int (0 : Int32))] [(.double (FP.dmul (FP.dmul (FP.i2d (0 : Int32)) (FP.i2d (0 : Int32))) (FP.l2d x0))), (.double (0 : UInt64)), (.int ((0 : Int32) + (1 : Int32))), (.ref b51)])) t → Steps p.tables e below (s₁.setTop (entryFrame m #[(.ref a1), (.ref a2)] 3)) t := fun t k => J131 t (by
      show Steps p.tables e below (T125.setTop (mkF m 101 #[.val (.ref a1), .val (.ref a2), .val (.int (0 : Int32))] [(.int (0 : Int32)), (.ref a2), (.double (FP.dmul (FP.i2d (0 : Int32)) (FP.i2d (0 : Int32)))), (.double (0 : UInt64)), (.int ((0 : Int32) + (1 : Int32))), (.ref b51)])) _
      refine X125.laload hx (j := (0 : Int32)) (v := (.long x0)) (by rw [e125]; exact f132.1) (State.isArrayOf_alike hZ.alike f132.2.1) f132.2.2 (own_inb Lh (by decide) (by decide : (0 : Int32).toNatClampNeg = 0) (by decide)) (own_at Lh (by decide : (0 : Int32).toNatClampNeg = 0) (by decide) rfl) (g := (mkF m 101 #[.val (.ref a1), .val (.ref a2), .val (.int (0 : Int32))] [(.int (0 : Int32)), (.ref a2), (.double (FP.dmul (FP.i2d (0 : Int32)) (FP.i2d (0 : Int32)))), (.double (0 : UInt64)), (.int ((0 : Int32) + (1 : Int32))), (.ref b51)])) rfl rfl (hb hby d1_101) _ ?_
      show Steps p.tables e below (T125.setTop (mkF m 102 #[.val (.ref a1), .val (.ref a2), .val (.int (0 : Int32))] [(.long x0), (.double (FP.dmul (FP.i2d (0 : Int32)) (FP.i2d (0 : Int32)))), (.double (0 : UInt64)), (.int ((0 : Int32) + (1 : Int32))), (.ref b51)])) _
      refine XS.l2dS X125.here hx rfl (hb hby d1_102) rfl rfl ?_
      show Steps p.tables e below (T125.setTop (mkF m 103 #[.val (.ref a1), .val (.ref a2), .val (.int (0 : Int32))] [(.double (FP.l2d x0)), (.double (FP.dmul (FP.i2d (0 : Int32)) (FP.i2d (0 : Int32)))), (.double (0 : UInt64)), (.int ((0 : Int32) + (1 : Int32))), (.ref b51)])) _
      refine XS.dmulS X125.here hx rfl (hb hby d1_103) rfl (own_n2 _ _) rfl ?_
      exact k)
  have nn0 := own_n3 own_z (0 : Int32) x0
  have J134 : ∀ t, Steps p.tables e below (T125.setTop (mkF m 105 #[.val (.ref a1), .val (.ref a2), .val (.int (0 : Int32))] [(.double (FP.dadd (0 : UInt64) (FP.dmul (FP.dmul (FP.i2d (0 : Int32)) (FP.i2d (0 : Int32))) (FP.l2d x0)))), (.int ((0 : Int32) + (1 : Int32))), (.ref b51)])) t → Steps p.tables e below (s₁.setTop (entryFrame m #[(.ref a1), (.ref a2)] 3)) t := fun t k => J133 t (by
      show Steps p.tables e below (T125.setTop (mkF m 104 #[.val (.ref a1), .val (.ref a2), .val (.int (0 : Int32))] [(.double (FP.dmul (FP.dmul (FP.i2d (0 : Int32)) (FP.i2d (0 : Int32))) (FP.l2d x0))), (.double (0 : UInt64)), (.int ((0 : Int32) + (1 : Int32))), (.ref b51)])) _
      refine XS.daddS X125.here hx rfl (hb hby d1_104) rfl nn0 rfl ?_
      exact k)
  obtain ⟨T135, h135, X135, e135, W135, st135⟩ := stD X125 hx hZ e125 f130 (j := ((0 : Int32) + (1 : Int32))) (own_inb L51 (by decide) (by decide : ((0 : Int32) + (1 : Int32)).toNatClampNeg = 1) (by decide)) (g := (mkF m 105 #[.val (.ref a1), .val (.ref a2), .val (.int (0 : Int32))] [(.double (FP.dadd (0 : UInt64) (FP.dmul (FP.dmul (FP.i2d (0 : Int32)) (FP.i2d (0 : Int32))) (FP.l2d x0)))), (.int ((0 : Int32) + (1 : Int32))), (.ref b51)])) rfl rfl (hb hby d1_105)
  have J136 : ∀ t, Steps p.tables e below (T135.setTop (mkF m 106 #[.val (.ref a1), .val (.ref a2), .val (.int (0 : Int32))] [])) t → Steps p.tables e below (s₁.setTop (entryFrame m #[(.ref a1), (.ref a2)] 3)) t := fun t k => J134 t (st135 t k)
  have Z137 : n0 ≤ h135.size := Nat.le_trans Z116 (Keep.of_wr W135).1
  have KK138 : Keep h0 h135 [a1] := KK117.wr W135 (Or.inr sz62)
  have N139 := Fr.snoc X135 N118 ge61
  obtain ⟨cl135, hcl135⟩ : ∃ z, z = cl51.setSlot (((0 : Int32) + (1 : Int32))).toNatClampNeg (.double (FP.dadd (0 : UInt64) (FP.dmul (FP.dmul (FP.i2d (0 : Int32)) (FP.i2d (0 : Int32))) (FP.l2d x0)))) := ⟨_, rfl⟩
  have Aw135 : Arr Z h135 b51 cl135 .double := by rw [hcl135]; exact f130.same W135
  have L135 := own_LAset L51 (by decide : ((0 : Int32) + (1 : Int32)).toNatClampNeg = 1) (by decide) hcl135
  have J140 : ∀ t, Steps p.tables e below (T135.setTop (mkF m 109 #[.val (.ref a1), .val (.ref a2), .val (.int ((0 : Int32) + (1 : Int32)))] [])) t → Steps p.tables e below (s₁.setTop (entryFrame m #[(.ref a1), (.ref a2)] 3)) t := fun t k => J136 t (by
      show Steps p.tables e below (T135.setTop (mkF m 106 #[.val (.ref a1), .val (.ref a2), .val (.int (0 : Int32))] [])) _
      refine XS.iinc X135.here hx rfl (hb hby d1_106) rfl (l' := #[.val (.ref a1), .val (.ref a2), .val (.int ((0 : Int32) + (1 : Int32)))]) rfl ?_
      exact k)
  have J141 : ∀ t, Steps p.tables e below (T135.setTop (mkF m 109 #[.val (.ref a1), .val (.ref a2), .val (.int (1 : Int32))] [])) t → Steps p.tables e below (s₁.setTop (entryFrame m #[(.ref a1), (.ref a2)] 3)) t := fun t k => J140 t (by rw [(by decide : ((0 : Int32) + (1 : Int32)) = (1 : Int32))]; exact k)
  have J142 : ∀ t, Steps p.tables e below (T135.setTop (mkF m 38 #[.val (.ref a1), .val (.ref a2), .val (.int (1 : Int32))] [(.ref a2), (.int (1 : Int32))])) t → Steps p.tables e below (s₁.setTop (entryFrame m #[(.ref a1), (.ref a2)] 3)) t := fun t k => J141 t (by
      show Steps p.tables e below (T135.setTop (mkF m 109 #[.val (.ref a1), .val (.ref a2), .val (.int (1 : Int32))] [])) _
      refine XS.goto X135.here hx rfl (pc0 := 109) (pc' := 36) rfl (hb hby d1_109) (by decide) (by decide) ?_
      show Steps p.tables e below (T135.setTop (mkF m 36 #[.val (.ref a1), .val (.ref a2), .val (.int (1 : Int32))] [])) _
      refine XS.iloadN X135.here hx rfl (hb hby d1_36) rfl ?_
      show Steps p.tables e below (T135.setTop (mkF m 37 #[.val (.ref a1), .val (.ref a2), .val (.int (1 : Int32))] [(.int (1 : Int32))])) _
      refine XS.aloadN X135.here hx rfl (hb hby d1_37) rfl rfl ?_
      exact k)
  have f143 := f132.other W135 ne58
  have J144 : ∀ t, Steps p.tables e below (T135.setTop (mkF m 43 #[.val (.ref a1), .val (.ref a2), .val (.int (1 : Int32))] [(.ref a1)])) t → Steps p.tables e below (s₁.setTop (entryFrame m #[(.ref a1), (.ref a2)] 3)) t := fun t k => J142 t (by
      show Steps p.tables e below (T135.setTop (mkF m 38 #[.val (.ref a1), .val (.ref a2), .val (.int (1 : Int32))] [(.ref a2), (.int (1 : Int32))])) _
      refine X135.arraylength hx (cell := clh) (by rw [e135]; exact f143.1) (State.isArrayOf_alike hZ.alike f143.2.1) (g := (mkF m 38 #[.val (.ref a1), .val (.ref a2), .val (.int (1 : Int32))] [(.ref a2), (.int (1 : Int32))])) rfl (rest := [(.int (1 : Int32))]) rfl (hb hby d1_38) _ ?_
      rw [(own_size Lh)]
      show Steps p.tables e below (T135.setTop (mkF m 39 #[.val (.ref a1), .val (.ref a2), .val (.int (1 : Int32))] [(.int (Int32.ofNat 4)), (.int (1 : Int32))])) _
      refine XS.icmpNo X135.here hx rfl (hb hby d1_39) rfl (tlt (by decide)).2.1 ?_
      show Steps p.tables e below (T135.setTop (mkF m 42 #[.val (.ref a1), .val (.ref a2), .val (.int (1 : Int32))] [])) _
      refine XS.aloadN X135.here hx rfl (hb hby d1_42) rfl rfl ?_
      exact k)
  have f145 := f83.other W93 (Or.inl ne8)
  have f146 := f145.other W114 (Or.inl ne30)
  have f147 := f146.other W135 (Or.inl ne57)
  obtain ⟨T148, X148, e148, st148⟩ := getF X135 hx hZ hown (host := "") (Or.inl (hw _ (List.mem_of_getElem? (i := 10) rfl))) Via.refl e135 f147 (g := (mkF m 43 #[.val (.ref a1), .val (.ref a2), .val (.int (1 : Int32))] [(.ref a1)])) rfl rfl (hb hby d1_43)
  have J149 : ∀ t, Steps p.tables e below (T148.setTop (mkF m 46 #[.val (.ref a1), .val (.ref a2), .val (.int (1 : Int32))] [(.ref b6)])) t → Steps p.tables e below (s₁.setTop (entryFrame m #[(.ref a1), (.ref a2)] 3)) t := fun t k => J144 t (st148 t k)
  have J150 : ∀ t, Steps p.tables e below (T148.setTop (mkF m 50 #[.val (.ref a1), .val (.ref a2), .val (.int (1 : Int32))] [(.ref a1), (.int ((1 : Int32) + (1 : Int32))), (.ref b6)])) t → Steps p.tables e below (s₁.setTop (entryFrame m #[(.ref a1), (.ref a2)] 3)) t := fun t k => J149 t (by
      show Steps p.tables e below (T148.setTop (mkF m 46 #[.val (.ref a1), .val (.ref a2), .val (.int (1 : Int32))] [(.ref b6)])) _
      refine XS.iloadN X148.here hx rfl (hb hby d1_46) rfl ?_
      show Steps p.tables e below (T148.setTop (mkF m 47 #[.val (.ref a1), .val (.ref a2), .val (.int (1 : Int32))] [(.int (1 : Int32)), (.ref b6)])) _
      refine XS.iconst X148.here hx rfl (hb hby d1_47) ?_
      show Steps p.tables e below (T148.setTop (mkF m 48 #[.val (.ref a1), .val (.ref a2), .val (.int (1 : Int32))] [(.int (1 : Int32)), (.int (1 : Int32)), (.ref b6)])) _
      refine XS.iadd X148.here hx rfl (hb hby d1_48) rfl ?_
      show Steps p.tables e below (T148.setTop (mkF m 49 #[.val (.ref a1), .val (.ref a2), .val (.int (1 : Int32))] [(.int ((1 : Int32) + (1 : Int32))), (.ref b6)])) _
      refine XS.aloadN X148.here hx rfl (hb hby d1_49) rfl rfl ?_
      exact k)
  obtain ⟨T151, X151, e151, st151⟩ := getF X148 hx hZ hown (host := "") (Or.inl (hw _ (List.mem_of_getElem? (i := 10) rfl))) Via.refl e148 f147 (g := (mkF m 50 #[.val (.ref a1), .val (.ref a2), .val (.int (1 : Int32))] [(.ref a1), (.int ((1 : Int32) + (1 : Int32))), (.ref b6)])) rfl rfl (hb hby d1_50)
  have J152 : ∀ t, Steps p.tables e below (T151.setTop (mkF m 53 #[.val (.ref a1), .val (.ref a2), .val (.int (1 : Int32))] [(.ref b6), (.int ((1 : Int32) + (1 : Int32))), (.ref b6)])) t → Steps p.tables e below (s₁.setTop (entryFrame m #[(.ref a1), (.ref a2)] 3)) t := fun t k => J150 t (st151 t k)
  have J153 : ∀ t, Steps p.tables e below (T151.setTop (mkF m 54 #[.val (.ref a1), .val (.ref a2), .val (.int (1 : Int32))] [(.int (1 : Int32)), (.ref b6), (.int ((1 : Int32) + (1 : Int32))), (.ref b6)])) t → Steps p.tables e below (s₁.setTop (entryFrame m #[(.ref a1), (.ref a2)] 3)) t := fun t k => J152 t (by
      show Steps p.tables e below (T151.setTop (mkF m 53 #[.val (.ref a1), .val (.ref a2), .val (.int (1 : Int32))] [(.ref b6), (.int ((1 : Int32) + (1 : Int32))), (.ref b6)])) _
      refine XS.iloadN X151.here hx rfl (hb hby d1_53) rfl ?_
      exact k)
  have f154 := Aw93.other W114 ne32
  have f155 := f154.other W135 ne59
  have J156 : ∀ t, Steps p.tables e below (T151.setTop (mkF m 59 #[.val (.ref a1), .val (.ref a2), .val (.int (1 : Int32))] [(.long (((0 : Int64) + x0) + x1)), (.int ((1 : Int32) + (1 : Int32))), (.ref b6)])) t → Steps p.tables e below (s₁.setTop (entryFrame m #[(.ref a1), (.ref a2)] 3)) t := fun t k => J153 t (by
      show Steps p.tables e below (T151.setTop (mkF m 54 #[.val (.ref a1), .val (.ref a2), .val (.int (1 : Int32))] [(.int (1 : Int32)), (.ref b6), (.int ((1 : Int32) + (1 : Int32))), (.ref b6)])) _
      refine X151.laload hx (j := (1 : Int32)) (v := (.long ((0 : Int64) + x0))) (by rw [e151]; exact f155.1) (State.isArrayOf_alike hZ.alike f155.2.1) f155.2.2 (own_inb L93 (by decide) (by decide : (1 : Int32).toNatClampNeg = 1) (by decide)) (own_at L93 (by decide : (1 : Int32).toNatClampNeg = 1) (by decide) rfl) (g := (mkF m 54 #[.val (.ref a1), .val (.ref a2), .val (.int (1 : Int32))] [(.int (1 : Int32)), (.ref b6), (.int ((1 : Int32) + (1 : Int32))), (.ref b6)])) rfl rfl (hb hby d1_54) _ ?_
      show Steps p.tables e below (T151.setTop (mkF m 55 #[.val (.ref a1), .val (.ref a2), .val (.int (1 : Int32))] [(.long ((0 : Int64) + x0)), (.int ((1 : Int32) + (1 : Int32))), (.ref b6)])) _
      refine XS.aloadN X151.here hx rfl (hb hby d1_55) rfl rfl ?_
      show Steps p.tables e below (T151.setTop (mkF m 56 #[.val (.ref a1), .val (.ref a2), .val (.int (1 : Int32))] [(.ref a2), (.long ((0 : Int64) + x0)), (.int ((1 : Int32) + (1 : Int32))), (.ref b6)])) _
      refine XS.iloadN X151.here hx rfl (hb hby d1_56) rfl ?_
      show Steps p.tables e below (T151.setTop (mkF m 57 #[.val (.ref a1), .val (.ref a2), .val (.int (1 : Int32))] [(.int (1 : Int32)), (.ref a2), (.long ((0 : Int64) + x0)), (.int ((1 : Int32) + (1 : Int32))), (.ref b6)])) _
      refine X151.laload hx (j := (1 : Int32)) (v := (.long x1)) (by rw [e151]; exact f143.1) (State.isArrayOf_alike hZ.alike f143.2.1) f143.2.2 (own_inb Lh (by decide) (by decide : (1 : Int32).toNatClampNeg = 1) (by decide)) (own_at Lh (by decide : (1 : Int32).toNatClampNeg = 1) (by decide) rfl) (g := (mkF m 57 #[.val (.ref a1), .val (.ref a2), .val (.int (1 : Int32))] [(.int (1 : Int32)), (.ref a2), (.long ((0 : Int64) + x0)), (.int ((1 : Int32) + (1 : Int32))), (.ref b6)])) rfl rfl (hb hby d1_57) _ ?_
      show Steps p.tables e below (T151.setTop (mkF m 58 #[.val (.ref a1), .val (.ref a2), .val (.int (1 : Int32))] [(.long x1), (.long ((0 : Int64) + x0)), (.int ((1 : Int32) + (1 : Int32))), (.ref b6)])) _
      refine XS.ladd X151.here hx rfl (hb hby d1_58) rfl ?_
      exact k)
  obtain ⟨T157, h157, X157, e157, W157, st157⟩ := stJ X151 hx hZ e151 f155 (j := ((1 : Int32) + (1 : Int32))) (own_inb L93 (by decide) (by decide : ((1 : Int32) + (1 : Int32)).toNatClampNeg = 2) (by decide)) (g := (mkF m 59 #[.val (.ref a1), .val (.ref a2), .val (.int (1 : Int32))] [(.long (((0 : Int64) + x0) + x1)), (.int ((1 : Int32) + (1 : Int32))), (.ref b6)])) rfl rfl (hb hby d1_59)
  have J158 : ∀ t, Steps p.tables e below (T157.setTop (mkF m 60 #[.val (.ref a1), .val (.ref a2), .val (.int (1 : Int32))] [])) t → Steps p.tables e below (s₁.setTop (entryFrame m #[(.ref a1), (.ref a2)] 3)) t := fun t k => J156 t (st157 t k)
  have Z159 : n0 ≤ h157.size := Nat.le_trans Z137 (Keep.of_wr W157).1
  have KK160 : Keep h0 h157 [a1] := KK138.wr W157 (Or.inr sz11)
  have N161 := Fr.snoc X157 N139 ge10
  obtain ⟨cl157, hcl157⟩ : ∃ z, z = cl93.setSlot (((1 : Int32) + (1 : Int32))).toNatClampNeg (.long (((0 : Int64) + x0) + x1)) := ⟨_, rfl⟩
  have Aw157 : Arr Z h157 b6 cl157 .long := by rw [hcl157]; exact f155.same W157
  have L157 := own_LAset L93 (by decide : ((1 : Int32) + (1 : Int32)).toNatClampNeg = 2) (by decide) hcl157
  have J162 : ∀ t, Steps p.tables e below (T157.setTop (mkF m 61 #[.val (.ref a1), .val (.ref a2), .val (.int (1 : Int32))] [(.ref a1)])) t → Steps p.tables e below (s₁.setTop (entryFrame m #[(.ref a1), (.ref a2)] 3)) t := fun t k => J158 t (by
      show Steps p.tables e below (T157.setTop (mkF m 60 #[.val (.ref a1), .val (.ref a2), .val (.int (1 : Int32))] [])) _
      refine XS.aloadN X157.here hx rfl (hb hby d1_60) rfl rfl ?_
      exact k)
  have f163 := f101.other W114 (Or.inl ne30)
  have f164 := f163.other W135 (Or.inl ne57)
  have f165 := f164.other W157 (Or.inl ne8)
  obtain ⟨T166, X166, e166, st166⟩ := getF X157 hx hZ hown (host := "") (Or.inl (hw _ (List.mem_of_getElem? (i := 12) rfl))) Via.refl e157 f165 (g := (mkF m 61 #[.val (.ref a1), .val (.ref a2), .val (.int (1 : Int32))] [(.ref a1)])) rfl rfl (hb hby d1_61)
  have J167 : ∀ t, Steps p.tables e below (T166.setTop (mkF m 64 #[.val (.ref a1), .val (.ref a2), .val (.int (1 : Int32))] [(.ref b26)])) t → Steps p.tables e below (s₁.setTop (entryFrame m #[(.ref a1), (.ref a2)] 3)) t := fun t k => J162 t (st166 t k)
  have J168 : ∀ t, Steps p.tables e below (T166.setTop (mkF m 68 #[.val (.ref a1), .val (.ref a2), .val (.int (1 : Int32))] [(.ref a1), (.int ((1 : Int32) + (1 : Int32))), (.ref b26)])) t → Steps p.tables e below (s₁.setTop (entryFrame m #[(.ref a1), (.ref a2)] 3)) t := fun t k => J167 t (by
      show Steps p.tables e below (T166.setTop (mkF m 64 #[.val (.ref a1), .val (.ref a2), .val (.int (1 : Int32))] [(.ref b26)])) _
      refine XS.iloadN X166.here hx rfl (hb hby d1_64) rfl ?_
      show Steps p.tables e below (T166.setTop (mkF m 65 #[.val (.ref a1), .val (.ref a2), .val (.int (1 : Int32))] [(.int (1 : Int32)), (.ref b26)])) _
      refine XS.iconst X166.here hx rfl (hb hby d1_65) ?_
      show Steps p.tables e below (T166.setTop (mkF m 66 #[.val (.ref a1), .val (.ref a2), .val (.int (1 : Int32))] [(.int (1 : Int32)), (.int (1 : Int32)), (.ref b26)])) _
      refine XS.iadd X166.here hx rfl (hb hby d1_66) rfl ?_
      show Steps p.tables e below (T166.setTop (mkF m 67 #[.val (.ref a1), .val (.ref a2), .val (.int (1 : Int32))] [(.int ((1 : Int32) + (1 : Int32))), (.ref b26)])) _
      refine XS.aloadN X166.here hx rfl (hb hby d1_67) rfl rfl ?_
      exact k)
  obtain ⟨T169, X169, e169, st169⟩ := getF X166 hx hZ hown (host := "") (Or.inl (hw _ (List.mem_of_getElem? (i := 12) rfl))) Via.refl e166 f165 (g := (mkF m 68 #[.val (.ref a1), .val (.ref a2), .val (.int (1 : Int32))] [(.ref a1), (.int ((1 : Int32) + (1 : Int32))), (.ref b26)])) rfl rfl (hb hby d1_68)
  have J170 : ∀ t, Steps p.tables e below (T169.setTop (mkF m 71 #[.val (.ref a1), .val (.ref a2), .val (.int (1 : Int32))] [(.ref b26), (.int ((1 : Int32) + (1 : Int32))), (.ref b26)])) t → Steps p.tables e below (s₁.setTop (entryFrame m #[(.ref a1), (.ref a2)] 3)) t := fun t k => J168 t (st169 t k)
  have J171 : ∀ t, Steps p.tables e below (T169.setTop (mkF m 72 #[.val (.ref a1), .val (.ref a2), .val (.int (1 : Int32))] [(.int (1 : Int32)), (.ref b26), (.int ((1 : Int32) + (1 : Int32))), (.ref b26)])) t → Steps p.tables e below (s₁.setTop (entryFrame m #[(.ref a1), (.ref a2)] 3)) t := fun t k => J170 t (by
      show Steps p.tables e below (T169.setTop (mkF m 71 #[.val (.ref a1), .val (.ref a2), .val (.int (1 : Int32))] [(.ref b26), (.int ((1 : Int32) + (1 : Int32))), (.ref b26)])) _
      refine XS.iloadN X169.here hx rfl (hb hby d1_71) rfl ?_
      exact k)
  have f172 := Aw114.other W135 ne60
  have f173 := f172.other W157 (Ne.symm ne32)
  have J174 : ∀ t, Steps p.tables e below (T169.setTop (mkF m 77 #[.val (.ref a1), .val (.ref a2), .val (.int (1 : Int32))] [(.int (1 : Int32)), (.ref a2), (.long ((1 : Int32).toInt64)), (.long ((0 : Int64) + (((0 : Int32).toInt64) * x0))), (.int ((1 : Int32) + (1 : Int32))), (.ref b26)])) t → Steps p.tables e below (s₁.setTop (entryFrame m #[(.ref a1), (.ref a2)] 3)) t := fun t k => J171 t (by
      show Steps p.tables e below (T169.setTop (mkF m 72 #[.val (.ref a1), .val (.ref a2), .val (.int (1 : Int32))] [(.int (1 : Int32)), (.ref b26), (.int ((1 : Int32) + (1 : Int32))), (.ref b26)])) _
      refine X169.laload hx (j := (1 : Int32)) (v := (.long ((0 : Int64) + (((0 : Int32).toInt64) * x0)))) (by rw [e169]; exact f173.1) (State.isArrayOf_alike hZ.alike f173.2.1) f173.2.2 (own_inb L114 (by decide) (by decide : (1 : Int32).toNatClampNeg = 1) (by decide)) (own_at L114 (by decide : (1 : Int32).toNatClampNeg = 1) (by decide) rfl) (g := (mkF m 72 #[.val (.ref a1), .val (.ref a2), .val (.int (1 : Int32))] [(.int (1 : Int32)), (.ref b26), (.int ((1 : Int32) + (1 : Int32))), (.ref b26)])) rfl rfl (hb hby d1_72) _ ?_
      show Steps p.tables e below (T169.setTop (mkF m 73 #[.val (.ref a1), .val (.ref a2), .val (.int (1 : Int32))] [(.long ((0 : Int64) + (((0 : Int32).toInt64) * x0))), (.int ((1 : Int32) + (1 : Int32))), (.ref b26)])) _
      refine XS.iloadN X169.here hx rfl (hb hby d1_73) rfl ?_
      show Steps p.tables e below (T169.setTop (mkF m 74 #[.val (.ref a1), .val (.ref a2), .val (.int (1 : Int32))] [(.int (1 : Int32)), (.long ((0 : Int64) + (((0 : Int32).toInt64) * x0))), (.int ((1 : Int32) + (1 : Int32))), (.ref b26)])) _
      refine XS.i2l X169.here hx rfl (hb hby d1_74) rfl ?_
      show Steps p.tables e below (T169.setTop (mkF m 75 #[.val (.ref a1), .val (.ref a2), .val (.int (1 : Int32))] [(.long ((1 : Int32).toInt64)), (.long ((0 : Int64) + (((0 : Int32).toInt64) * x0))), (.int ((1 : Int32) + (1 : Int32))), (.ref b26)])) _
      refine XS.aloadN X169.here hx rfl (hb hby d1_75) rfl rfl ?_
      show Steps p.tables e below (T169.setTop (mkF m 76 #[.val (.ref a1), .val (.ref a2), .val (.int (1 : Int32))] [(.ref a2), (.long ((1 : Int32).toInt64)), (.long ((0 : Int64) + (((0 : Int32).toInt64) * x0))), (.int ((1 : Int32) + (1 : Int32))), (.ref b26)])) _
      refine XS.iloadN X169.here hx rfl (hb hby d1_76) rfl ?_
      exact k)
  have f175 := f143.other W157 ne9
  have J176 : ∀ t, Steps p.tables e below (T169.setTop (mkF m 80 #[.val (.ref a1), .val (.ref a2), .val (.int (1 : Int32))] [(.long (((0 : Int64) + (((0 : Int32).toInt64) * x0)) + (((1 : Int32).toInt64) * x1))), (.int ((1 : Int32) + (1 : Int32))), (.ref b26)])) t → Steps p.tables e below (s₁.setTop (entryFrame m #[(.ref a1), (.ref a2)] 3)) t := fun t k => J174 t (by
      show Steps p.tables e below (T169.setTop (mkF m 77 #[.val (.ref a1), .val (.ref a2), .val (.int (1 : Int32))] [(.int (1 : Int32)), (.ref a2), (.long ((1 : Int32).toInt64)), (.long ((0 : Int64) + (((0 : Int32).toInt64) * x0))), (.int ((1 : Int32) + (1 : Int32))), (.ref b26)])) _
      refine X169.laload hx (j := (1 : Int32)) (v := (.long x1)) (by rw [e169]; exact f175.1) (State.isArrayOf_alike hZ.alike f175.2.1) f175.2.2 (own_inb Lh (by decide) (by decide : (1 : Int32).toNatClampNeg = 1) (by decide)) (own_at Lh (by decide : (1 : Int32).toNatClampNeg = 1) (by decide) rfl) (g := (mkF m 77 #[.val (.ref a1), .val (.ref a2), .val (.int (1 : Int32))] [(.int (1 : Int32)), (.ref a2), (.long ((1 : Int32).toInt64)), (.long ((0 : Int64) + (((0 : Int32).toInt64) * x0))), (.int ((1 : Int32) + (1 : Int32))), (.ref b26)])) rfl rfl (hb hby d1_77) _ ?_
      show Steps p.tables e below (T169.setTop (mkF m 78 #[.val (.ref a1), .val (.ref a2), .val (.int (1 : Int32))] [(.long x1), (.long ((1 : Int32).toInt64)), (.long ((0 : Int64) + (((0 : Int32).toInt64) * x0))), (.int ((1 : Int32) + (1 : Int32))), (.ref b26)])) _
      refine XS.lmul X169.here hx rfl (hb hby d1_78) rfl ?_
      show Steps p.tables e below (T169.setTop (mkF m 79 #[.val (.ref a1), .val (.ref a2), .val (.int (1 : Int32))] [(.long (((1 : Int32).toInt64) * x1)), (.long ((0 : Int64) + (((0 : Int32).toInt64) * x0))), (.int ((1 : Int32) + (1 : Int32))), (.ref b26)])) _
      refine XS.ladd X169.here hx rfl (hb hby d1_79) rfl ?_
      exact k)
  obtain ⟨T177, h177, X177, e177, W177, st177⟩ := stJ X169 hx hZ e169 f173 (j := ((1 : Int32) + (1 : Int32))) (own_inb L114 (by decide) (by decide : ((1 : Int32) + (1 : Int32)).toNatClampNeg = 2) (by decide)) (g := (mkF m 80 #[.val (.ref a1), .val (.ref a2), .val (.int (1 : Int32))] [(.long (((0 : Int64) + (((0 : Int32).toInt64) * x0)) + (((1 : Int32).toInt64) * x1))), (.int ((1 : Int32) + (1 : Int32))), (.ref b26)])) rfl rfl (hb hby d1_80)
  have J178 : ∀ t, Steps p.tables e below (T177.setTop (mkF m 81 #[.val (.ref a1), .val (.ref a2), .val (.int (1 : Int32))] [])) t → Steps p.tables e below (s₁.setTop (entryFrame m #[(.ref a1), (.ref a2)] 3)) t := fun t k => J176 t (st177 t k)
  have Z179 : n0 ≤ h177.size := Nat.le_trans Z159 (Keep.of_wr W177).1
  have KK180 : Keep h0 h177 [a1] := KK160.wr W177 (Or.inr sz34)
  have N181 := Fr.snoc X177 N161 ge33
  obtain ⟨cl177, hcl177⟩ : ∃ z, z = cl114.setSlot (((1 : Int32) + (1 : Int32))).toNatClampNeg (.long (((0 : Int64) + (((0 : Int32).toInt64) * x0)) + (((1 : Int32).toInt64) * x1))) := ⟨_, rfl⟩
  have Aw177 : Arr Z h177 b26 cl177 .long := by rw [hcl177]; exact f173.same W177
  have L177 := own_LAset L114 (by decide : ((1 : Int32) + (1 : Int32)).toNatClampNeg = 2) (by decide) hcl177
  have J182 : ∀ t, Steps p.tables e below (T177.setTop (mkF m 82 #[.val (.ref a1), .val (.ref a2), .val (.int (1 : Int32))] [(.ref a1)])) t → Steps p.tables e below (s₁.setTop (entryFrame m #[(.ref a1), (.ref a2)] 3)) t := fun t k => J178 t (by
      show Steps p.tables e below (T177.setTop (mkF m 81 #[.val (.ref a1), .val (.ref a2), .val (.int (1 : Int32))] [])) _
      refine XS.aloadN X177.here hx rfl (hb hby d1_81) rfl rfl ?_
      exact k)
  have f183 := f121.other W135 (Or.inl ne57)
  have f184 := f183.other W157 (Or.inl ne8)
  have f185 := f184.other W177 (Or.inl ne30)
  obtain ⟨T186, X186, e186, st186⟩ := getF X177 hx hZ hown (host := "") (Or.inl (hw _ (List.mem_of_getElem? (i := 15) rfl))) Via.refl e177 f185 (g := (mkF m 82 #[.val (.ref a1), .val (.ref a2), .val (.int (1 : Int32))] [(.ref a1)])) rfl rfl (hb hby d1_82)
  have J187 : ∀ t, Steps p.tables e below (T186.setTop (mkF m 85 #[.val (.ref a1), .val (.ref a2), .val (.int (1 : Int32))] [(.ref b51)])) t → Steps p.tables e below (s₁.setTop (entryFrame m #[(.ref a1), (.ref a2)] 3)) t := fun t k => J182 t (st186 t k)
  have J188 : ∀ t, Steps p.tables e below (T186.setTop (mkF m 89 #[.val (.ref a1), .val (.ref a2), .val (.int (1 : Int32))] [(.ref a1), (.int ((1 : Int32) + (1 : Int32))), (.ref b51)])) t → Steps p.tables e below (s₁.setTop (entryFrame m #[(.ref a1), (.ref a2)] 3)) t := fun t k => J187 t (by
      show Steps p.tables e below (T186.setTop (mkF m 85 #[.val (.ref a1), .val (.ref a2), .val (.int (1 : Int32))] [(.ref b51)])) _
      refine XS.iloadN X186.here hx rfl (hb hby d1_85) rfl ?_
      show Steps p.tables e below (T186.setTop (mkF m 86 #[.val (.ref a1), .val (.ref a2), .val (.int (1 : Int32))] [(.int (1 : Int32)), (.ref b51)])) _
      refine XS.iconst X186.here hx rfl (hb hby d1_86) ?_
      show Steps p.tables e below (T186.setTop (mkF m 87 #[.val (.ref a1), .val (.ref a2), .val (.int (1 : Int32))] [(.int (1 : Int32)), (.int (1 : Int32)), (.ref b51)])) _
      refine XS.iadd X186.here hx rfl (hb hby d1_87) rfl ?_
      show Steps p.tables e below (T186.setTop (mkF m 88 #[.val (.ref a1), .val (.ref a2), .val (.int (1 : Int32))] [(.int ((1 : Int32) + (1 : Int32))), (.ref b51)])) _
      refine XS.aloadN X186.here hx rfl (hb hby d1_88) rfl rfl ?_
      exact k)
  obtain ⟨T189, X189, e189, st189⟩ := getF X186 hx hZ hown (host := "") (Or.inl (hw _ (List.mem_of_getElem? (i := 15) rfl))) Via.refl e186 f185 (g := (mkF m 89 #[.val (.ref a1), .val (.ref a2), .val (.int (1 : Int32))] [(.ref a1), (.int ((1 : Int32) + (1 : Int32))), (.ref b51)])) rfl rfl (hb hby d1_89)
  have J190 : ∀ t, Steps p.tables e below (T189.setTop (mkF m 92 #[.val (.ref a1), .val (.ref a2), .val (.int (1 : Int32))] [(.ref b51), (.int ((1 : Int32) + (1 : Int32))), (.ref b51)])) t → Steps p.tables e below (s₁.setTop (entryFrame m #[(.ref a1), (.ref a2)] 3)) t := fun t k => J188 t (st189 t k)
  have J191 : ∀ t, Steps p.tables e below (T189.setTop (mkF m 93 #[.val (.ref a1), .val (.ref a2), .val (.int (1 : Int32))] [(.int (1 : Int32)), (.ref b51), (.int ((1 : Int32) + (1 : Int32))), (.ref b51)])) t → Steps p.tables e below (s₁.setTop (entryFrame m #[(.ref a1), (.ref a2)] 3)) t := fun t k => J190 t (by
      show Steps p.tables e below (T189.setTop (mkF m 92 #[.val (.ref a1), .val (.ref a2), .val (.int (1 : Int32))] [(.ref b51), (.int ((1 : Int32) + (1 : Int32))), (.ref b51)])) _
      refine XS.iloadN X189.here hx rfl (hb hby d1_92) rfl ?_
      exact k)
  have f192 := Aw135.other W157 (Ne.symm ne59)
  have f193 := f192.other W177 (Ne.symm ne60)
  have J194 : ∀ t, Steps p.tables e below (T189.setTop (mkF m 101 #[.val (.ref a1), .val (.ref a2), .val (.int (1 : Int32))] [(.int (1 : Int32)), (.ref a2), (.double (FP.dmul (FP.i2d (1 : Int32)) (FP.i2d (1 : Int32)))), (.double (FP.dadd (0 : UInt64) (FP.dmul (FP.dmul (FP.i2d (0 : Int32)) (FP.i2d (0 : Int32))) (FP.l2d x0)))), (.int ((1 : Int32) + (1 : Int32))), (.ref b51)])) t → Steps p.tables e below (s₁.setTop (entryFrame m #[(.ref a1), (.ref a2)] 3)) t := fun t k => J191 t (by
      show Steps p.tables e below (T189.setTop (mkF m 93 #[.val (.ref a1), .val (.ref a2), .val (.int (1 : Int32))] [(.int (1 : Int32)), (.ref b51), (.int ((1 : Int32) + (1 : Int32))), (.ref b51)])) _
      refine X189.daload hx (j := (1 : Int32)) (v := (.double (FP.dadd (0 : UInt64) (FP.dmul (FP.dmul (FP.i2d (0 : Int32)) (FP.i2d (0 : Int32))) (FP.l2d x0))))) (by rw [e189]; exact f193.1) (State.isArrayOf_alike hZ.alike f193.2.1) f193.2.2 (own_inb L135 (by decide) (by decide : (1 : Int32).toNatClampNeg = 1) (by decide)) (own_at L135 (by decide : (1 : Int32).toNatClampNeg = 1) (by decide) rfl) (g := (mkF m 93 #[.val (.ref a1), .val (.ref a2), .val (.int (1 : Int32))] [(.int (1 : Int32)), (.ref b51), (.int ((1 : Int32) + (1 : Int32))), (.ref b51)])) rfl rfl (hb hby d1_93) _ ?_
      show Steps p.tables e below (T189.setTop (mkF m 94 #[.val (.ref a1), .val (.ref a2), .val (.int (1 : Int32))] [(.double (FP.dadd (0 : UInt64) (FP.dmul (FP.dmul (FP.i2d (0 : Int32)) (FP.i2d (0 : Int32))) (FP.l2d x0)))), (.int ((1 : Int32) + (1 : Int32))), (.ref b51)])) _
      refine XS.iloadN X189.here hx rfl (hb hby d1_94) rfl ?_
      show Steps p.tables e below (T189.setTop (mkF m 95 #[.val (.ref a1), .val (.ref a2), .val (.int (1 : Int32))] [(.int (1 : Int32)), (.double (FP.dadd (0 : UInt64) (FP.dmul (FP.dmul (FP.i2d (0 : Int32)) (FP.i2d (0 : Int32))) (FP.l2d x0)))), (.int ((1 : Int32) + (1 : Int32))), (.ref b51)])) _
      refine XS.i2dS X189.here hx rfl (hb hby d1_95) rfl rfl ?_
      show Steps p.tables e below (T189.setTop (mkF m 96 #[.val (.ref a1), .val (.ref a2), .val (.int (1 : Int32))] [(.double (FP.i2d (1 : Int32))), (.double (FP.dadd (0 : UInt64) (FP.dmul (FP.dmul (FP.i2d (0 : Int32)) (FP.i2d (0 : Int32))) (FP.l2d x0)))), (.int ((1 : Int32) + (1 : Int32))), (.ref b51)])) _
      refine XS.iloadN X189.here hx rfl (hb hby d1_96) rfl ?_
      show Steps p.tables e below (T189.setTop (mkF m 97 #[.val (.ref a1), .val (.ref a2), .val (.int (1 : Int32))] [(.int (1 : Int32)), (.double (FP.i2d (1 : Int32))), (.double (FP.dadd (0 : UInt64) (FP.dmul (FP.dmul (FP.i2d (0 : Int32)) (FP.i2d (0 : Int32))) (FP.l2d x0)))), (.int ((1 : Int32) + (1 : Int32))), (.ref b51)])) _
      refine XS.i2dS X189.here hx rfl (hb hby d1_97) rfl rfl ?_
      show Steps p.tables e below (T189.setTop (mkF m 98 #[.val (.ref a1), .val (.ref a2), .val (.int (1 : Int32))] [(.double (FP.i2d (1 : Int32))), (.double (FP.i2d (1 : Int32))), (.double (FP.dadd (0 : UInt64) (FP.dmul (FP.dmul (FP.i2d (0 : Int32)) (FP.i2d (0 : Int32))) (FP.l2d x0)))), (.int ((1 : Int32) + (1 : Int32))), (.ref b51)])) _
      refine XS.dmulS X189.here hx rfl (hb hby d1_98) rfl (own_n1 _) rfl ?_
      show Steps p.tables e below (T189.setTop (mkF m 99 #[.val (.ref a1), .val (.ref a2), .val (.int (1 : Int32))] [(.double (FP.dmul (FP.i2d (1 : Int32)) (FP.i2d (1 : Int32)))), (.double (FP.dadd (0 : UInt64) (FP.dmul (FP.dmul (FP.i2d (0 : Int32)) (FP.i2d (0 : Int32))) (FP.l2d x0)))), (.int ((1 : Int32) + (1 : Int32))), (.ref b51)])) _
      refine XS.aloadN X189.here hx rfl (hb hby d1_99) rfl rfl ?_
      show Steps p.tables e below (T189.setTop (mkF m 100 #[.val (.ref a1), .val (.ref a2), .val (.int (1 : Int32))] [(.ref a2), (.double (FP.dmul (FP.i2d (1 : Int32)) (FP.i2d (1 : Int32)))), (.double (FP.dadd (0 : UInt64) (FP.dmul (FP.dmul (FP.i2d (0 : Int32)) (FP.i2d (0 : Int32))) (FP.l2d x0)))), (.int ((1 : Int32) + (1 : Int32))), (.ref b51)])) _
      refine XS.iloadN X189.here hx rfl (hb hby d1_100) rfl ?_
      exact k)
  have f195 := f175.other W177 ne31
  have J196 : ∀ t, Steps p.tables e below (T189.setTop (mkF m 104 #[.val (.ref a1), .val (.ref a2), .val (.int (1 : Int32))] [(.double (FP.dmul (FP.dmul (FP.i2d (1 : Int32)) (FP.i2d (1 : Int32))) (FP.l2d x1))), (.double (FP.dadd (0 : UInt64) (FP.dmul (FP.dmul (FP.i2d (0 : Int32)) (FP.i2d (0 : Int32))) (FP.l2d x0)))), (.int ((1 : Int32) + (1 : Int32))), (.ref b51)])) t → Steps p.tables e below (s₁.setTop (entryFrame m #[(.ref a1), (.ref a2)] 3)) t := fun t k => J194 t (by
      show Steps p.tables e below (T189.setTop (mkF m 101 #[.val (.ref a1), .val (.ref a2), .val (.int (1 : Int32))] [(.int (1 : Int32)), (.ref a2), (.double (FP.dmul (FP.i2d (1 : Int32)) (FP.i2d (1 : Int32)))), (.double (FP.dadd (0 : UInt64) (FP.dmul (FP.dmul (FP.i2d (0 : Int32)) (FP.i2d (0 : Int32))) (FP.l2d x0)))), (.int ((1 : Int32) + (1 : Int32))), (.ref b51)])) _
      refine X189.laload hx (j := (1 : Int32)) (v := (.long x1)) (by rw [e189]; exact f195.1) (State.isArrayOf_alike hZ.alike f195.2.1) f195.2.2 (own_inb Lh (by decide) (by decide : (1 : Int32).toNatClampNeg = 1) (by decide)) (own_at Lh (by decide : (1 : Int32).toNatClampNeg = 1) (by decide) rfl) (g := (mkF m 101 #[.val (.ref a1), .val (.ref a2), .val (.int (1 : Int32))] [(.int (1 : Int32)), (.ref a2), (.double (FP.dmul (FP.i2d (1 : Int32)) (FP.i2d (1 : Int32)))), (.double (FP.dadd (0 : UInt64) (FP.dmul (FP.dmul (FP.i2d (0 : Int32)) (FP.i2d (0 : Int32))) (FP.l2d x0)))), (.int ((1 : Int32) + (1 : Int32))), (.ref b51)])) rfl rfl (hb hby d1_101) _ ?_
      show Steps p.tables e below (T189.setTop (mkF m 102 #[.val (.ref a1), .val (.ref a2), .val (.int (1 : Int32))] [(.long x1), (.double (FP.dmul (FP.i2d (1 : Int32)) (FP.i2d (1 : Int32)))), (.double (FP.dadd (0 : UInt64) (FP.dmul (FP.dmul (FP.i2d (0 : Int32)) (FP.i2d (0 : Int32))) (FP.l2d x0)))), (.int ((1 : Int32) + (1 : Int32))), (.ref b51)])) _
      refine XS.l2dS X189.here hx rfl (hb hby d1_102) rfl rfl ?_
      show Steps p.tables e below (T189.setTop (mkF m 103 #[.val (.ref a1), .val (.ref a2), .val (.int (1 : Int32))] [(.double (FP.l2d x1)), (.double (FP.dmul (FP.i2d (1 : Int32)) (FP.i2d (1 : Int32)))), (.double (FP.dadd (0 : UInt64) (FP.dmul (FP.dmul (FP.i2d (0 : Int32)) (FP.i2d (0 : Int32))) (FP.l2d x0)))), (.int ((1 : Int32) + (1 : Int32))), (.ref b51)])) _
      refine XS.dmulS X189.here hx rfl (hb hby d1_103) rfl (own_n2 _ _) rfl ?_
      exact k)
  have nn1 := own_n3 nn0 (1 : Int32) x1
  have J197 : ∀ t, Steps p.tables e below (T189.setTop (mkF m 105 #[.val (.ref a1), .val (.ref a2), .val (.int (1 : Int32))] [(.double (FP.dadd (FP.dadd (0 : UInt64) (FP.dmul (FP.dmul (FP.i2d (0 : Int32)) (FP.i2d (0 : Int32))) (FP.l2d x0))) (FP.dmul (FP.dmul (FP.i2d (1 : Int32)) (FP.i2d (1 : Int32))) (FP.l2d x1)))), (.int ((1 : Int32) + (1 : Int32))), (.ref b51)])) t → Steps p.tables e below (s₁.setTop (entryFrame m #[(.ref a1), (.ref a2)] 3)) t := fun t k => J196 t (by
      show Steps p.tables e below (T189.setTop (mkF m 104 #[.val (.ref a1), .val (.ref a2), .val (.int (1 : Int32))] [(.double (FP.dmul (FP.dmul (FP.i2d (1 : Int32)) (FP.i2d (1 : Int32))) (FP.l2d x1))), (.double (FP.dadd (0 : UInt64) (FP.dmul (FP.dmul (FP.i2d (0 : Int32)) (FP.i2d (0 : Int32))) (FP.l2d x0)))), (.int ((1 : Int32) + (1 : Int32))), (.ref b51)])) _
      refine XS.daddS X189.here hx rfl (hb hby d1_104) rfl nn1 rfl ?_
      exact k)
  obtain ⟨T198, h198, X198, e198, W198, st198⟩ := stD X189 hx hZ e189 f193 (j := ((1 : Int32) + (1 : Int32))) (own_inb L135 (by decide) (by decide : ((1 : Int32) + (1 : Int32)).toNatClampNeg = 2) (by decide)) (g := (mkF m 105 #[.val (.ref a1), .val (.ref a2), .val (.int (1 : Int32))] [(.double (FP.dadd (FP.dadd (0 : UInt64) (FP.dmul (FP.dmul (FP.i2d (0 : Int32)) (FP.i2d (0 : Int32))) (FP.l2d x0))) (FP.dmul (FP.dmul (FP.i2d (1 : Int32)) (FP.i2d (1 : Int32))) (FP.l2d x1)))), (.int ((1 : Int32) + (1 : Int32))), (.ref b51)])) rfl rfl (hb hby d1_105)
  have J199 : ∀ t, Steps p.tables e below (T198.setTop (mkF m 106 #[.val (.ref a1), .val (.ref a2), .val (.int (1 : Int32))] [])) t → Steps p.tables e below (s₁.setTop (entryFrame m #[(.ref a1), (.ref a2)] 3)) t := fun t k => J197 t (st198 t k)
  have Z200 : n0 ≤ h198.size := Nat.le_trans Z179 (Keep.of_wr W198).1
  have KK201 : Keep h0 h198 [a1] := KK180.wr W198 (Or.inr sz62)
  have N202 := Fr.snoc X198 N181 ge61
  obtain ⟨cl198, hcl198⟩ : ∃ z, z = cl135.setSlot (((1 : Int32) + (1 : Int32))).toNatClampNeg (.double (FP.dadd (FP.dadd (0 : UInt64) (FP.dmul (FP.dmul (FP.i2d (0 : Int32)) (FP.i2d (0 : Int32))) (FP.l2d x0))) (FP.dmul (FP.dmul (FP.i2d (1 : Int32)) (FP.i2d (1 : Int32))) (FP.l2d x1)))) := ⟨_, rfl⟩
  have Aw198 : Arr Z h198 b51 cl198 .double := by rw [hcl198]; exact f193.same W198
  have L198 := own_LAset L135 (by decide : ((1 : Int32) + (1 : Int32)).toNatClampNeg = 2) (by decide) hcl198
  have J203 : ∀ t, Steps p.tables e below (T198.setTop (mkF m 109 #[.val (.ref a1), .val (.ref a2), .val (.int ((1 : Int32) + (1 : Int32)))] [])) t → Steps p.tables e below (s₁.setTop (entryFrame m #[(.ref a1), (.ref a2)] 3)) t := fun t k => J199 t (by
      show Steps p.tables e below (T198.setTop (mkF m 106 #[.val (.ref a1), .val (.ref a2), .val (.int (1 : Int32))] [])) _
      refine XS.iinc X198.here hx rfl (hb hby d1_106) rfl (l' := #[.val (.ref a1), .val (.ref a2), .val (.int ((1 : Int32) + (1 : Int32)))]) rfl ?_
      exact k)
  have J204 : ∀ t, Steps p.tables e below (T198.setTop (mkF m 109 #[.val (.ref a1), .val (.ref a2), .val (.int (2 : Int32))] [])) t → Steps p.tables e below (s₁.setTop (entryFrame m #[(.ref a1), (.ref a2)] 3)) t := fun t k => J203 t (by rw [(by decide : ((1 : Int32) + (1 : Int32)) = (2 : Int32))]; exact k)
  have J205 : ∀ t, Steps p.tables e below (T198.setTop (mkF m 38 #[.val (.ref a1), .val (.ref a2), .val (.int (2 : Int32))] [(.ref a2), (.int (2 : Int32))])) t → Steps p.tables e below (s₁.setTop (entryFrame m #[(.ref a1), (.ref a2)] 3)) t := fun t k => J204 t (by
      show Steps p.tables e below (T198.setTop (mkF m 109 #[.val (.ref a1), .val (.ref a2), .val (.int (2 : Int32))] [])) _
      refine XS.goto X198.here hx rfl (pc0 := 109) (pc' := 36) rfl (hb hby d1_109) (by decide) (by decide) ?_
      show Steps p.tables e below (T198.setTop (mkF m 36 #[.val (.ref a1), .val (.ref a2), .val (.int (2 : Int32))] [])) _
      refine XS.iloadN X198.here hx rfl (hb hby d1_36) rfl ?_
      show Steps p.tables e below (T198.setTop (mkF m 37 #[.val (.ref a1), .val (.ref a2), .val (.int (2 : Int32))] [(.int (2 : Int32))])) _
      refine XS.aloadN X198.here hx rfl (hb hby d1_37) rfl rfl ?_
      exact k)
  have f206 := f195.other W198 ne58
  have J207 : ∀ t, Steps p.tables e below (T198.setTop (mkF m 43 #[.val (.ref a1), .val (.ref a2), .val (.int (2 : Int32))] [(.ref a1)])) t → Steps p.tables e below (s₁.setTop (entryFrame m #[(.ref a1), (.ref a2)] 3)) t := fun t k => J205 t (by
      show Steps p.tables e below (T198.setTop (mkF m 38 #[.val (.ref a1), .val (.ref a2), .val (.int (2 : Int32))] [(.ref a2), (.int (2 : Int32))])) _
      refine X198.arraylength hx (cell := clh) (by rw [e198]; exact f206.1) (State.isArrayOf_alike hZ.alike f206.2.1) (g := (mkF m 38 #[.val (.ref a1), .val (.ref a2), .val (.int (2 : Int32))] [(.ref a2), (.int (2 : Int32))])) rfl (rest := [(.int (2 : Int32))]) rfl (hb hby d1_38) _ ?_
      rw [(own_size Lh)]
      show Steps p.tables e below (T198.setTop (mkF m 39 #[.val (.ref a1), .val (.ref a2), .val (.int (2 : Int32))] [(.int (Int32.ofNat 4)), (.int (2 : Int32))])) _
      refine XS.icmpNo X198.here hx rfl (hb hby d1_39) rfl (tlt (by decide)).2.1 ?_
      show Steps p.tables e below (T198.setTop (mkF m 42 #[.val (.ref a1), .val (.ref a2), .val (.int (2 : Int32))] [])) _
      refine XS.aloadN X198.here hx rfl (hb hby d1_42) rfl rfl ?_
      exact k)
  have f208 := f147.other W157 (Or.inl ne8)
  have f209 := f208.other W177 (Or.inl ne30)
  have f210 := f209.other W198 (Or.inl ne57)
  obtain ⟨T211, X211, e211, st211⟩ := getF X198 hx hZ hown (host := "") (Or.inl (hw _ (List.mem_of_getElem? (i := 10) rfl))) Via.refl e198 f210 (g := (mkF m 43 #[.val (.ref a1), .val (.ref a2), .val (.int (2 : Int32))] [(.ref a1)])) rfl rfl (hb hby d1_43)
  have J212 : ∀ t, Steps p.tables e below (T211.setTop (mkF m 46 #[.val (.ref a1), .val (.ref a2), .val (.int (2 : Int32))] [(.ref b6)])) t → Steps p.tables e below (s₁.setTop (entryFrame m #[(.ref a1), (.ref a2)] 3)) t := fun t k => J207 t (st211 t k)
  have J213 : ∀ t, Steps p.tables e below (T211.setTop (mkF m 50 #[.val (.ref a1), .val (.ref a2), .val (.int (2 : Int32))] [(.ref a1), (.int ((2 : Int32) + (1 : Int32))), (.ref b6)])) t → Steps p.tables e below (s₁.setTop (entryFrame m #[(.ref a1), (.ref a2)] 3)) t := fun t k => J212 t (by
      show Steps p.tables e below (T211.setTop (mkF m 46 #[.val (.ref a1), .val (.ref a2), .val (.int (2 : Int32))] [(.ref b6)])) _
      refine XS.iloadN X211.here hx rfl (hb hby d1_46) rfl ?_
      show Steps p.tables e below (T211.setTop (mkF m 47 #[.val (.ref a1), .val (.ref a2), .val (.int (2 : Int32))] [(.int (2 : Int32)), (.ref b6)])) _
      refine XS.iconst X211.here hx rfl (hb hby d1_47) ?_
      show Steps p.tables e below (T211.setTop (mkF m 48 #[.val (.ref a1), .val (.ref a2), .val (.int (2 : Int32))] [(.int (1 : Int32)), (.int (2 : Int32)), (.ref b6)])) _
      refine XS.iadd X211.here hx rfl (hb hby d1_48) rfl ?_
      show Steps p.tables e below (T211.setTop (mkF m 49 #[.val (.ref a1), .val (.ref a2), .val (.int (2 : Int32))] [(.int ((2 : Int32) + (1 : Int32))), (.ref b6)])) _
      refine XS.aloadN X211.here hx rfl (hb hby d1_49) rfl rfl ?_
      exact k)
  obtain ⟨T214, X214, e214, st214⟩ := getF X211 hx hZ hown (host := "") (Or.inl (hw _ (List.mem_of_getElem? (i := 10) rfl))) Via.refl e211 f210 (g := (mkF m 50 #[.val (.ref a1), .val (.ref a2), .val (.int (2 : Int32))] [(.ref a1), (.int ((2 : Int32) + (1 : Int32))), (.ref b6)])) rfl rfl (hb hby d1_50)
  have J215 : ∀ t, Steps p.tables e below (T214.setTop (mkF m 53 #[.val (.ref a1), .val (.ref a2), .val (.int (2 : Int32))] [(.ref b6), (.int ((2 : Int32) + (1 : Int32))), (.ref b6)])) t → Steps p.tables e below (s₁.setTop (entryFrame m #[(.ref a1), (.ref a2)] 3)) t := fun t k => J213 t (st214 t k)
  have J216 : ∀ t, Steps p.tables e below (T214.setTop (mkF m 54 #[.val (.ref a1), .val (.ref a2), .val (.int (2 : Int32))] [(.int (2 : Int32)), (.ref b6), (.int ((2 : Int32) + (1 : Int32))), (.ref b6)])) t → Steps p.tables e below (s₁.setTop (entryFrame m #[(.ref a1), (.ref a2)] 3)) t := fun t k => J215 t (by
      show Steps p.tables e below (T214.setTop (mkF m 53 #[.val (.ref a1), .val (.ref a2), .val (.int (2 : Int32))] [(.ref b6), (.int ((2 : Int32) + (1 : Int32))), (.ref b6)])) _
      refine XS.iloadN X214.here hx rfl (hb hby d1_53) rfl ?_
      exact k)
  have f217 := Aw157.other W177 ne32
  have f218 := f217.other W198 ne59
  have J219 : ∀ t, Steps p.tables e below (T214.setTop (mkF m 59 #[.val (.ref a1), .val (.ref a2), .val (.int (2 : Int32))] [(.long ((((0 : Int64) + x0) + x1) + x2)), (.int ((2 : Int32) + (1 : Int32))), (.ref b6)])) t → Steps p.tables e below (s₁.setTop (entryFrame m #[(.ref a1), (.ref a2)] 3)) t := fun t k => J216 t (by
      show Steps p.tables e below (T214.setTop (mkF m 54 #[.val (.ref a1), .val (.ref a2), .val (.int (2 : Int32))] [(.int (2 : Int32)), (.ref b6), (.int ((2 : Int32) + (1 : Int32))), (.ref b6)])) _
      refine X214.laload hx (j := (2 : Int32)) (v := (.long (((0 : Int64) + x0) + x1))) (by rw [e214]; exact f218.1) (State.isArrayOf_alike hZ.alike f218.2.1) f218.2.2 (own_inb L157 (by decide) (by decide : (2 : Int32).toNatClampNeg = 2) (by decide)) (own_at L157 (by decide : (2 : Int32).toNatClampNeg = 2) (by decide) rfl) (g := (mkF m 54 #[.val (.ref a1), .val (.ref a2), .val (.int (2 : Int32))] [(.int (2 : Int32)), (.ref b6), (.int ((2 : Int32) + (1 : Int32))), (.ref b6)])) rfl rfl (hb hby d1_54) _ ?_
      show Steps p.tables e below (T214.setTop (mkF m 55 #[.val (.ref a1), .val (.ref a2), .val (.int (2 : Int32))] [(.long (((0 : Int64) + x0) + x1)), (.int ((2 : Int32) + (1 : Int32))), (.ref b6)])) _
      refine XS.aloadN X214.here hx rfl (hb hby d1_55) rfl rfl ?_
      show Steps p.tables e below (T214.setTop (mkF m 56 #[.val (.ref a1), .val (.ref a2), .val (.int (2 : Int32))] [(.ref a2), (.long (((0 : Int64) + x0) + x1)), (.int ((2 : Int32) + (1 : Int32))), (.ref b6)])) _
      refine XS.iloadN X214.here hx rfl (hb hby d1_56) rfl ?_
      show Steps p.tables e below (T214.setTop (mkF m 57 #[.val (.ref a1), .val (.ref a2), .val (.int (2 : Int32))] [(.int (2 : Int32)), (.ref a2), (.long (((0 : Int64) + x0) + x1)), (.int ((2 : Int32) + (1 : Int32))), (.ref b6)])) _
      refine X214.laload hx (j := (2 : Int32)) (v := (.long x2)) (by rw [e214]; exact f206.1) (State.isArrayOf_alike hZ.alike f206.2.1) f206.2.2 (own_inb Lh (by decide) (by decide : (2 : Int32).toNatClampNeg = 2) (by decide)) (own_at Lh (by decide : (2 : Int32).toNatClampNeg = 2) (by decide) rfl) (g := (mkF m 57 #[.val (.ref a1), .val (.ref a2), .val (.int (2 : Int32))] [(.int (2 : Int32)), (.ref a2), (.long (((0 : Int64) + x0) + x1)), (.int ((2 : Int32) + (1 : Int32))), (.ref b6)])) rfl rfl (hb hby d1_57) _ ?_
      show Steps p.tables e below (T214.setTop (mkF m 58 #[.val (.ref a1), .val (.ref a2), .val (.int (2 : Int32))] [(.long x2), (.long (((0 : Int64) + x0) + x1)), (.int ((2 : Int32) + (1 : Int32))), (.ref b6)])) _
      refine XS.ladd X214.here hx rfl (hb hby d1_58) rfl ?_
      exact k)
  obtain ⟨T220, h220, X220, e220, W220, st220⟩ := stJ X214 hx hZ e214 f218 (j := ((2 : Int32) + (1 : Int32))) (own_inb L157 (by decide) (by decide : ((2 : Int32) + (1 : Int32)).toNatClampNeg = 3) (by decide)) (g := (mkF m 59 #[.val (.ref a1), .val (.ref a2), .val (.int (2 : Int32))] [(.long ((((0 : Int64) + x0) + x1) + x2)), (.int ((2 : Int32) + (1 : Int32))), (.ref b6)])) rfl rfl (hb hby d1_59)
  have J221 : ∀ t, Steps p.tables e below (T220.setTop (mkF m 60 #[.val (.ref a1), .val (.ref a2), .val (.int (2 : Int32))] [])) t → Steps p.tables e below (s₁.setTop (entryFrame m #[(.ref a1), (.ref a2)] 3)) t := fun t k => J219 t (st220 t k)
  have Z222 : n0 ≤ h220.size := Nat.le_trans Z200 (Keep.of_wr W220).1
  have KK223 : Keep h0 h220 [a1] := KK201.wr W220 (Or.inr sz11)
  have N224 := Fr.snoc X220 N202 ge10
  obtain ⟨cl220, hcl220⟩ : ∃ z, z = cl157.setSlot (((2 : Int32) + (1 : Int32))).toNatClampNeg (.long ((((0 : Int64) + x0) + x1) + x2)) := ⟨_, rfl⟩
  have Aw220 : Arr Z h220 b6 cl220 .long := by rw [hcl220]; exact f218.same W220
  have L220 := own_LAset L157 (by decide : ((2 : Int32) + (1 : Int32)).toNatClampNeg = 3) (by decide) hcl220
  have J225 : ∀ t, Steps p.tables e below (T220.setTop (mkF m 61 #[.val (.ref a1), .val (.ref a2), .val (.int (2 : Int32))] [(.ref a1)])) t → Steps p.tables e below (s₁.setTop (entryFrame m #[(.ref a1), (.ref a2)] 3)) t := fun t k => J221 t (by
      show Steps p.tables e below (T220.setTop (mkF m 60 #[.val (.ref a1), .val (.ref a2), .val (.int (2 : Int32))] [])) _
      refine XS.aloadN X220.here hx rfl (hb hby d1_60) rfl rfl ?_
      exact k)
  have f226 := f165.other W177 (Or.inl ne30)
  have f227 := f226.other W198 (Or.inl ne57)
  have f228 := f227.other W220 (Or.inl ne8)
  obtain ⟨T229, X229, e229, st229⟩ := getF X220 hx hZ hown (host := "") (Or.inl (hw _ (List.mem_of_getElem? (i := 12) rfl))) Via.refl e220 f228 (g := (mkF m 61 #[.val (.ref a1), .val (.ref a2), .val (.int (2 : Int32))] [(.ref a1)])) rfl rfl (hb hby d1_61)
  have J230 : ∀ t, Steps p.tables e below (T229.setTop (mkF m 64 #[.val (.ref a1), .val (.ref a2), .val (.int (2 : Int32))] [(.ref b26)])) t → Steps p.tables e below (s₁.setTop (entryFrame m #[(.ref a1), (.ref a2)] 3)) t := fun t k => J225 t (st229 t k)
  have J231 : ∀ t, Steps p.tables e below (T229.setTop (mkF m 68 #[.val (.ref a1), .val (.ref a2), .val (.int (2 : Int32))] [(.ref a1), (.int ((2 : Int32) + (1 : Int32))), (.ref b26)])) t → Steps p.tables e below (s₁.setTop (entryFrame m #[(.ref a1), (.ref a2)] 3)) t := fun t k => J230 t (by
      show Steps p.tables e below (T229.setTop (mkF m 64 #[.val (.ref a1), .val (.ref a2), .val (.int (2 : Int32))] [(.ref b26)])) _
      refine XS.iloadN X229.here hx rfl (hb hby d1_64) rfl ?_
      show Steps p.tables e below (T229.setTop (mkF m 65 #[.val (.ref a1), .val (.ref a2), .val (.int (2 : Int32))] [(.int (2 : Int32)), (.ref b26)])) _
      refine XS.iconst X229.here hx rfl (hb hby d1_65) ?_
      show Steps p.tables e below (T229.setTop (mkF m 66 #[.val (.ref a1), .val (.ref a2), .val (.int (2 : Int32))] [(.int (1 : Int32)), (.int (2 : Int32)), (.ref b26)])) _
      refine XS.iadd X229.here hx rfl (hb hby d1_66) rfl ?_
      show Steps p.tables e below (T229.setTop (mkF m 67 #[.val (.ref a1), .val (.ref a2), .val (.int (2 : Int32))] [(.int ((2 : Int32) + (1 : Int32))), (.ref b26)])) _
      refine XS.aloadN X229.here hx rfl (hb hby d1_67) rfl rfl ?_
      exact k)
  obtain ⟨T232, X232, e232, st232⟩ := getF X229 hx hZ hown (host := "") (Or.inl (hw _ (List.mem_of_getElem? (i := 12) rfl))) Via.refl e229 f228 (g := (mkF m 68 #[.val (.ref a1), .val (.ref a2), .val (.int (2 : Int32))] [(.ref a1), (.int ((2 : Int32) + (1 : Int32))), (.ref b26)])) rfl rfl (hb hby d1_68)
  have J233 : ∀ t, Steps p.tables e below (T232.setTop (mkF m 71 #[.val (.ref a1), .val (.ref a2), .val (.int (2 : Int32))] [(.ref b26), (.int ((2 : Int32) + (1 : Int32))), (.ref b26)])) t → Steps p.tables e below (s₁.setTop (entryFrame m #[(.ref a1), (.ref a2)] 3)) t := fun t k => J231 t (st232 t k)
  have J234 : ∀ t, Steps p.tables e below (T232.setTop (mkF m 72 #[.val (.ref a1), .val (.ref a2), .val (.int (2 : Int32))] [(.int (2 : Int32)), (.ref b26), (.int ((2 : Int32) + (1 : Int32))), (.ref b26)])) t → Steps p.tables e below (s₁.setTop (entryFrame m #[(.ref a1), (.ref a2)] 3)) t := fun t k => J233 t (by
      show Steps p.tables e below (T232.setTop (mkF m 71 #[.val (.ref a1), .val (.ref a2), .val (.int (2 : Int32))] [(.ref b26), (.int ((2 : Int32) + (1 : Int32))), (.ref b26)])) _
      refine XS.iloadN X232.here hx rfl (hb hby d1_71) rfl ?_
      exact k)
  have f235 := Aw177.other W198 ne60
  have f236 := f235.other W220 (Ne.symm ne32)
  have J237 : ∀ t, Steps p.tables e below (T232.setTop (mkF m 77 #[.val (.ref a1), .val (.ref a2), .val (.int (2 : Int32))] [(.int (2 : Int32)), (.ref a2), (.long ((2 : Int32).toInt64)), (.long (((0 : Int64) + (((0 : Int32).toInt64) * x0)) + (((1 : Int32).toInt64) * x1))), (.int ((2 : Int32) + (1 : Int32))), (.ref b26)])) t → Steps p.tables e below (s₁.setTop (entryFrame m #[(.ref a1), (.ref a2)] 3)) t := fun t k => J234 t (by
      show Steps p.tables e below (T232.setTop (mkF m 72 #[.val (.ref a1), .val (.ref a2), .val (.int (2 : Int32))] [(.int (2 : Int32)), (.ref b26), (.int ((2 : Int32) + (1 : Int32))), (.ref b26)])) _
      refine X232.laload hx (j := (2 : Int32)) (v := (.long (((0 : Int64) + (((0 : Int32).toInt64) * x0)) + (((1 : Int32).toInt64) * x1)))) (by rw [e232]; exact f236.1) (State.isArrayOf_alike hZ.alike f236.2.1) f236.2.2 (own_inb L177 (by decide) (by decide : (2 : Int32).toNatClampNeg = 2) (by decide)) (own_at L177 (by decide : (2 : Int32).toNatClampNeg = 2) (by decide) rfl) (g := (mkF m 72 #[.val (.ref a1), .val (.ref a2), .val (.int (2 : Int32))] [(.int (2 : Int32)), (.ref b26), (.int ((2 : Int32) + (1 : Int32))), (.ref b26)])) rfl rfl (hb hby d1_72) _ ?_
      show Steps p.tables e below (T232.setTop (mkF m 73 #[.val (.ref a1), .val (.ref a2), .val (.int (2 : Int32))] [(.long (((0 : Int64) + (((0 : Int32).toInt64) * x0)) + (((1 : Int32).toInt64) * x1))), (.int ((2 : Int32) + (1 : Int32))), (.ref b26)])) _
      refine XS.iloadN X232.here hx rfl (hb hby d1_73) rfl ?_
      show Steps p.tables e below (T232.setTop (mkF m 74 #[.val (.ref a1), .val (.ref a2), .val (.int (2 : Int32))] [(.int (2 : Int32)), (.long (((0 : Int64) + (((0 : Int32).toInt64) * x0)) + (((1 : Int32).toInt64) * x1))), (.int ((2 : Int32) + (1 : Int32))), (.ref b26)])) _
      refine XS.i2l X232.here hx rfl (hb hby d1_74) rfl ?_
      show Steps p.tables e below (T232.setTop (mkF m 75 #[.val (.ref a1), .val (.ref a2), .val (.int (2 : Int32))] [(.long ((2 : Int32).toInt64)), (.long (((0 : Int64) + (((0 : Int32).toInt64) * x0)) + (((1 : Int32).toInt64) * x1))), (.int ((2 : Int32) + (1 : Int32))), (.ref b26)])) _
      refine XS.aloadN X232.here hx rfl (hb hby d1_75) rfl rfl ?_
      show Steps p.tables e below (T232.setTop (mkF m 76 #[.val (.ref a1), .val (.ref a2), .val (.int (2 : Int32))] [(.ref a2), (.long ((2 : Int32).toInt64)), (.long (((0 : Int64) + (((0 : Int32).toInt64) * x0)) + (((1 : Int32).toInt64) * x1))), (.int ((2 : Int32) + (1 : Int32))), (.ref b26)])) _
      refine XS.iloadN X232.here hx rfl (hb hby d1_76) rfl ?_
      exact k)
  have f238 := f206.other W220 ne9
  have J239 : ∀ t, Steps p.tables e below (T232.setTop (mkF m 80 #[.val (.ref a1), .val (.ref a2), .val (.int (2 : Int32))] [(.long ((((0 : Int64) + (((0 : Int32).toInt64) * x0)) + (((1 : Int32).toInt64) * x1)) + (((2 : Int32).toInt64) * x2))), (.int ((2 : Int32) + (1 : Int32))), (.ref b26)])) t → Steps p.tables e below (s₁.setTop (entryFrame m #[(.ref a1), (.ref a2)] 3)) t := fun t k => J237 t (by
      show Steps p.tables e below (T232.setTop (mkF m 77 #[.val (.ref a1), .val (.ref a2), .val (.int (2 : Int32))] [(.int (2 : Int32)), (.ref a2), (.long ((2 : Int32).toInt64)), (.long (((0 : Int64) + (((0 : Int32).toInt64) * x0)) + (((1 : Int32).toInt64) * x1))), (.int ((2 : Int32) + (1 : Int32))), (.ref b26)])) _
      refine X232.laload hx (j := (2 : Int32)) (v := (.long x2)) (by rw [e232]; exact f238.1) (State.isArrayOf_alike hZ.alike f238.2.1) f238.2.2 (own_inb Lh (by decide) (by decide : (2 : Int32).toNatClampNeg = 2) (by decide)) (own_at Lh (by decide : (2 : Int32).toNatClampNeg = 2) (by decide) rfl) (g := (mkF m 77 #[.val (.ref a1), .val (.ref a2), .val (.int (2 : Int32))] [(.int (2 : Int32)), (.ref a2), (.long ((2 : Int32).toInt64)), (.long (((0 : Int64) + (((0 : Int32).toInt64) * x0)) + (((1 : Int32).toInt64) * x1))), (.int ((2 : Int32) + (1 : Int32))), (.ref b26)])) rfl rfl (hb hby d1_77) _ ?_
      show Steps p.tables e below (T232.setTop (mkF m 78 #[.val (.ref a1), .val (.ref a2), .val (.int (2 : Int32))] [(.long x2), (.long ((2 : Int32).toInt64)), (.long (((0 : Int64) + (((0 : Int32).toInt64) * x0)) + (((1 : Int32).toInt64) * x1))), (.int ((2 : Int32) + (1 : Int32))), (.ref b26)])) _
      refine XS.lmul X232.here hx rfl (hb hby d1_78) rfl ?_
      show Steps p.tables e below (T232.setTop (mkF m 79 #[.val (.ref a1), .val (.ref a2), .val (.int (2 : Int32))] [(.long (((2 : Int32).toInt64) * x2)), (.long (((0 : Int64) + (((0 : Int32).toInt64) * x0)) + (((1 : Int32).toInt64) * x1))), (.int ((2 : Int32) + (1 : Int32))), (.ref b26)])) _
      refine XS.ladd X232.here hx rfl (hb hby d1_79) rfl ?_
      exact k)
  obtain ⟨T240, h240, X240, e240, W240, st240⟩ := stJ X232 hx hZ e232 f236 (j := ((2 : Int32) + (1 : Int32))) (own_inb L177 (by decide) (by decide : ((2 : Int32) + (1 : Int32)).toNatClampNeg = 3) (by decide)) (g := (mkF m 80 #[.val (.ref a1), .val (.ref a2), .val (.int (2 : Int32))] [(.long ((((0 : Int64) + (((0 : Int32).toInt64) * x0)) + (((1 : Int32).toInt64) * x1)) + (((2 : Int32).toInt64) * x2))), (.int ((2 : Int32) + (1 : Int32))), (.ref b26)])) rfl rfl (hb hby d1_80)
  have J241 : ∀ t, Steps p.tables e below (T240.setTop (mkF m 81 #[.val (.ref a1), .val (.ref a2), .val (.int (2 : Int32))] [])) t → Steps p.tables e below (s₁.setTop (entryFrame m #[(.ref a1), (.ref a2)] 3)) t := fun t k => J239 t (st240 t k)
  have Z242 : n0 ≤ h240.size := Nat.le_trans Z222 (Keep.of_wr W240).1
  have KK243 : Keep h0 h240 [a1] := KK223.wr W240 (Or.inr sz34)
  have N244 := Fr.snoc X240 N224 ge33
  obtain ⟨cl240, hcl240⟩ : ∃ z, z = cl177.setSlot (((2 : Int32) + (1 : Int32))).toNatClampNeg (.long ((((0 : Int64) + (((0 : Int32).toInt64) * x0)) + (((1 : Int32).toInt64) * x1)) + (((2 : Int32).toInt64) * x2))) := ⟨_, rfl⟩
  have Aw240 : Arr Z h240 b26 cl240 .long := by rw [hcl240]; exact f236.same W240
  have L240 := own_LAset L177 (by decide : ((2 : Int32) + (1 : Int32)).toNatClampNeg = 3) (by decide) hcl240
  have J245 : ∀ t, Steps p.tables e below (T240.setTop (mkF m 82 #[.val (.ref a1), .val (.ref a2), .val (.int (2 : Int32))] [(.ref a1)])) t → Steps p.tables e below (s₁.setTop (entryFrame m #[(.ref a1), (.ref a2)] 3)) t := fun t k => J241 t (by
      show Steps p.tables e below (T240.setTop (mkF m 81 #[.val (.ref a1), .val (.ref a2), .val (.int (2 : Int32))] [])) _
      refine XS.aloadN X240.here hx rfl (hb hby d1_81) rfl rfl ?_
      exact k)
  have f246 := f185.other W198 (Or.inl ne57)
  have f247 := f246.other W220 (Or.inl ne8)
  have f248 := f247.other W240 (Or.inl ne30)
  obtain ⟨T249, X249, e249, st249⟩ := getF X240 hx hZ hown (host := "") (Or.inl (hw _ (List.mem_of_getElem? (i := 15) rfl))) Via.refl e240 f248 (g := (mkF m 82 #[.val (.ref a1), .val (.ref a2), .val (.int (2 : Int32))] [(.ref a1)])) rfl rfl (hb hby d1_82)
  have J250 : ∀ t, Steps p.tables e below (T249.setTop (mkF m 85 #[.val (.ref a1), .val (.ref a2), .val (.int (2 : Int32))] [(.ref b51)])) t → Steps p.tables e below (s₁.setTop (entryFrame m #[(.ref a1), (.ref a2)] 3)) t := fun t k => J245 t (st249 t k)
  have J251 : ∀ t, Steps p.tables e below (T249.setTop (mkF m 89 #[.val (.ref a1), .val (.ref a2), .val (.int (2 : Int32))] [(.ref a1), (.int ((2 : Int32) + (1 : Int32))), (.ref b51)])) t → Steps p.tables e below (s₁.setTop (entryFrame m #[(.ref a1), (.ref a2)] 3)) t := fun t k => J250 t (by
      show Steps p.tables e below (T249.setTop (mkF m 85 #[.val (.ref a1), .val (.ref a2), .val (.int (2 : Int32))] [(.ref b51)])) _
      refine XS.iloadN X249.here hx rfl (hb hby d1_85) rfl ?_
      show Steps p.tables e below (T249.setTop (mkF m 86 #[.val (.ref a1), .val (.ref a2), .val (.int (2 : Int32))] [(.int (2 : Int32)), (.ref b51)])) _
      refine XS.iconst X249.here hx rfl (hb hby d1_86) ?_
      show Steps p.tables e below (T249.setTop (mkF m 87 #[.val (.ref a1), .val (.ref a2), .val (.int (2 : Int32))] [(.int (1 : Int32)), (.int (2 : Int32)), (.ref b51)])) _
      refine XS.iadd X249.here hx rfl (hb hby d1_87) rfl ?_
      show Steps p.tables e below (T249.setTop (mkF m 88 #[.val (.ref a1), .val (.ref a2), .val (.int (2 : Int32))] [(.int ((2 : Int32) + (1 : Int32))), (.ref b51)])) _
      refine XS.aloadN X249.here hx rfl (hb hby d1_88) rfl rfl ?_
      exact k)
  obtain ⟨T252, X252, e252, st252⟩ := getF X249 hx hZ hown (host := "") (Or.inl (hw _ (List.mem_of_getElem? (i := 15) rfl))) Via.refl e249 f248 (g := (mkF m 89 #[.val (.ref a1), .val (.ref a2), .val (.int (2 : Int32))] [(.ref a1), (.int ((2 : Int32) + (1 : Int32))), (.ref b51)])) rfl rfl (hb hby d1_89)
  have J253 : ∀ t, Steps p.tables e below (T252.setTop (mkF m 92 #[.val (.ref a1), .val (.ref a2), .val (.int (2 : Int32))] [(.ref b51), (.int ((2 : Int32) + (1 : Int32))), (.ref b51)])) t → Steps p.tables e below (s₁.setTop (entryFrame m #[(.ref a1), (.ref a2)] 3)) t := fun t k => J251 t (st252 t k)
  have J254 : ∀ t, Steps p.tables e below (T252.setTop (mkF m 93 #[.val (.ref a1), .val (.ref a2), .val (.int (2 : Int32))] [(.int (2 : Int32)), (.ref b51), (.int ((2 : Int32) + (1 : Int32))), (.ref b51)])) t → Steps p.tables e below (s₁.setTop (entryFrame m #[(.ref a1), (.ref a2)] 3)) t := fun t k => J253 t (by
      show Steps p.tables e below (T252.setTop (mkF m 92 #[.val (.ref a1), .val (.ref a2), .val (.int (2 : Int32))] [(.ref b51), (.int ((2 : Int32) + (1 : Int32))), (.ref b51)])) _
      refine XS.iloadN X252.here hx rfl (hb hby d1_92) rfl ?_
      exact k)
  have f255 := Aw198.other W220 (Ne.symm ne59)
  have f256 := f255.other W240 (Ne.symm ne60)
  have J257 : ∀ t, Steps p.tables e below (T252.setTop (mkF m 101 #[.val (.ref a1), .val (.ref a2), .val (.int (2 : Int32))] [(.int (2 : Int32)), (.ref a2), (.double (FP.dmul (FP.i2d (2 : Int32)) (FP.i2d (2 : Int32)))), (.double (FP.dadd (FP.dadd (0 : UInt64) (FP.dmul (FP.dmul (FP.i2d (0 : Int32)) (FP.i2d (0 : Int32))) (FP.l2d x0))) (FP.dmul (FP.dmul (FP.i2d (1 : Int32)) (FP.i2d (1 : Int32))) (FP.l2d x1)))), (.int ((2 : Int32) + (1 : Int32))), (.ref b51)])) t → Steps p.tables e below (s₁.setTop (entryFrame m #[(.ref a1), (.ref a2)] 3)) t := fun t k => J254 t (by
      show Steps p.tables e below (T252.setTop (mkF m 93 #[.val (.ref a1), .val (.ref a2), .val (.int (2 : Int32))] [(.int (2 : Int32)), (.ref b51), (.int ((2 : Int32) + (1 : Int32))), (.ref b51)])) _
      refine X252.daload hx (j := (2 : Int32)) (v := (.double (FP.dadd (FP.dadd (0 : UInt64) (FP.dmul (FP.dmul (FP.i2d (0 : Int32)) (FP.i2d (0 : Int32))) (FP.l2d x0))) (FP.dmul (FP.dmul (FP.i2d (1 : Int32)) (FP.i2d (1 : Int32))) (FP.l2d x1))))) (by rw [e252]; exact f256.1) (State.isArrayOf_alike hZ.alike f256.2.1) f256.2.2 (own_inb L198 (by decide) (by decide : (2 : Int32).toNatClampNeg = 2) (by decide)) (own_at L198 (by decide : (2 : Int32).toNatClampNeg = 2) (by decide) rfl) (g := (mkF m 93 #[.val (.ref a1), .val (.ref a2), .val (.int (2 : Int32))] [(.int (2 : Int32)), (.ref b51), (.int ((2 : Int32) + (1 : Int32))), (.ref b51)])) rfl rfl (hb hby d1_93) _ ?_
      show Steps p.tables e below (T252.setTop (mkF m 94 #[.val (.ref a1), .val (.ref a2), .val (.int (2 : Int32))] [(.double (FP.dadd (FP.dadd (0 : UInt64) (FP.dmul (FP.dmul (FP.i2d (0 : Int32)) (FP.i2d (0 : Int32))) (FP.l2d x0))) (FP.dmul (FP.dmul (FP.i2d (1 : Int32)) (FP.i2d (1 : Int32))) (FP.l2d x1)))), (.int ((2 : Int32) + (1 : Int32))), (.ref b51)])) _
      refine XS.iloadN X252.here hx rfl (hb hby d1_94) rfl ?_
      show Steps p.tables e below (T252.setTop (mkF m 95 #[.val (.ref a1), .val (.ref a2), .val (.int (2 : Int32))] [(.int (2 : Int32)), (.double (FP.dadd (FP.dadd (0 : UInt64) (FP.dmul (FP.dmul (FP.i2d (0 : Int32)) (FP.i2d (0 : Int32))) (FP.l2d x0))) (FP.dmul (FP.dmul (FP.i2d (1 : Int32)) (FP.i2d (1 : Int32))) (FP.l2d x1)))), (.int ((2 : Int32) + (1 : Int32))), (.ref b51)])) _
      refine XS.i2dS X252.here hx rfl (hb hby d1_95) rfl rfl ?_
      show Steps p.tables e below (T252.setTop (mkF m 96 #[.val (.ref a1), .val (.ref a2), .val (.int (2 : Int32))] [(.double (FP.i2d (2 : Int32))), (.double (FP.dadd (FP.dadd (0 : UInt64) (FP.dmul (FP.dmul (FP.i2d (0 : Int32)) (FP.i2d (0 : Int32))) (FP.l2d x0))) (FP.dmul (FP.dmul (FP.i2d (1 : Int32)) (FP.i2d (1 : Int32))) (FP.l2d x1)))), (.int ((2 : Int32) + (1 : Int32))), (.ref b51)])) _
      refine XS.iloadN X252.here hx rfl (hb hby d1_96) rfl ?_
      show Steps p.tables e below (T252.setTop (mkF m 97 #[.val (.ref a1), .val (.ref a2), .val (.int (2 : Int32))] [(.int (2 : Int32)), (.double (FP.i2d (2 : Int32))), (.double (FP.dadd (FP.dadd (0 : UInt64) (FP.dmul (FP.dmul (FP.i2d (0 : Int32)) (FP.i2d (0 : Int32))) (FP.l2d x0))) (FP.dmul (FP.dmul (FP.i2d (1 : Int32)) (FP.i2d (1 : Int32))) (FP.l2d x1)))), (.int ((2 : Int32) + (1 : Int32))), (.ref b51)])) _
      refine XS.i2dS X252.here hx rfl (hb hby d1_97) rfl rfl ?_
      show Steps p.tables e below (T252.setTop (mkF m 98 #[.val (.ref a1), .val (.ref a2), .val (.int (2 : Int32))] [(.double (FP.i2d (2 : Int32))), (.double (FP.i2d (2 : Int32))), (.double (FP.dadd (FP.dadd (0 : UInt64) (FP.dmul (FP.dmul (FP.i2d (0 : Int32)) (FP.i2d (0 : Int32))) (FP.l2d x0))) (FP.dmul (FP.dmul (FP.i2d (1 : Int32)) (FP.i2d (1 : Int32))) (FP.l2d x1)))), (.int ((2 : Int32) + (1 : Int32))), (.ref b51)])) _
      refine XS.dmulS X252.here hx rfl (hb hby d1_98) rfl (own_n1 _) rfl ?_
      show Steps p.tables e below (T252.setTop (mkF m 99 #[.val (.ref a1), .val (.ref a2), .val (.int (2 : Int32))] [(.double (FP.dmul (FP.i2d (2 : Int32)) (FP.i2d (2 : Int32)))), (.double (FP.dadd (FP.dadd (0 : UInt64) (FP.dmul (FP.dmul (FP.i2d (0 : Int32)) (FP.i2d (0 : Int32))) (FP.l2d x0))) (FP.dmul (FP.dmul (FP.i2d (1 : Int32)) (FP.i2d (1 : Int32))) (FP.l2d x1)))), (.int ((2 : Int32) + (1 : Int32))), (.ref b51)])) _
      refine XS.aloadN X252.here hx rfl (hb hby d1_99) rfl rfl ?_
      show Steps p.tables e below (T252.setTop (mkF m 100 #[.val (.ref a1), .val (.ref a2), .val (.int (2 : Int32))] [(.ref a2), (.double (FP.dmul (FP.i2d (2 : Int32)) (FP.i2d (2 : Int32)))), (.double (FP.dadd (FP.dadd (0 : UInt64) (FP.dmul (FP.dmul (FP.i2d (0 : Int32)) (FP.i2d (0 : Int32))) (FP.l2d x0))) (FP.dmul (FP.dmul (FP.i2d (1 : Int32)) (FP.i2d (1 : Int32))) (FP.l2d x1)))), (.int ((2 : Int32) + (1 : Int32))), (.ref b51)])) _
      refine XS.iloadN X252.here hx rfl (hb hby d1_100) rfl ?_
      exact k)
  have f258 := f238.other W240 ne31
  have J259 : ∀ t, Steps p.tables e below (T252.setTop (mkF m 104 #[.val (.ref a1), .val (.ref a2), .val (.int (2 : Int32))] [(.double (FP.dmul (FP.dmul (FP.i2d (2 : Int32)) (FP.i2d (2 : Int32))) (FP.l2d x2))), (.double (FP.dadd (FP.dadd (0 : UInt64) (FP.dmul (FP.dmul (FP.i2d (0 : Int32)) (FP.i2d (0 : Int32))) (FP.l2d x0))) (FP.dmul (FP.dmul (FP.i2d (1 : Int32)) (FP.i2d (1 : Int32))) (FP.l2d x1)))), (.int ((2 : Int32) + (1 : Int32))), (.ref b51)])) t → Steps p.tables e below (s₁.setTop (entryFrame m #[(.ref a1), (.ref a2)] 3)) t := fun t k => J257 t (by
      show Steps p.tables e below (T252.setTop (mkF m 101 #[.val (.ref a1), .val (.ref a2), .val (.int (2 : Int32))] [(.int (2 : Int32)), (.ref a2), (.double (FP.dmul (FP.i2d (2 : Int32)) (FP.i2d (2 : Int32)))), (.double (FP.dadd (FP.dadd (0 : UInt64) (FP.dmul (FP.dmul (FP.i2d (0 : Int32)) (FP.i2d (0 : Int32))) (FP.l2d x0))) (FP.dmul (FP.dmul (FP.i2d (1 : Int32)) (FP.i2d (1 : Int32))) (FP.l2d x1)))), (.int ((2 : Int32) + (1 : Int32))), (.ref b51)])) _
      refine X252.laload hx (j := (2 : Int32)) (v := (.long x2)) (by rw [e252]; exact f258.1) (State.isArrayOf_alike hZ.alike f258.2.1) f258.2.2 (own_inb Lh (by decide) (by decide : (2 : Int32).toNatClampNeg = 2) (by decide)) (own_at Lh (by decide : (2 : Int32).toNatClampNeg = 2) (by decide) rfl) (g := (mkF m 101 #[.val (.ref a1), .val (.ref a2), .val (.int (2 : Int32))] [(.int (2 : Int32)), (.ref a2), (.double (FP.dmul (FP.i2d (2 : Int32)) (FP.i2d (2 : Int32)))), (.double (FP.dadd (FP.dadd (0 : UInt64) (FP.dmul (FP.dmul (FP.i2d (0 : Int32)) (FP.i2d (0 : Int32))) (FP.l2d x0))) (FP.dmul (FP.dmul (FP.i2d (1 : Int32)) (FP.i2d (1 : Int32))) (FP.l2d x1)))), (.int ((2 : Int32) + (1 : Int32))), (.ref b51)])) rfl rfl (hb hby d1_101) _ ?_
      show Steps p.tables e below (T252.setTop (mkF m 102 #[.val (.ref a1), .val (.ref a2), .val (.int (2 : Int32))] [(.long x2), (.double (FP.dmul (FP.i2d (2 : Int32)) (FP.i2d (2 : Int32)))), (.double (FP.dadd (FP.dadd (0 : UInt64) (FP.dmul (FP.dmul (FP.i2d (0 : Int32)) (FP.i2d (0 : Int32))) (FP.l2d x0))) (FP.dmul (FP.dmul (FP.i2d (1 : Int32)) (FP.i2d (1 : Int32))) (FP.l2d x1)))), (.int ((2 : Int32) + (1 : Int32))), (.ref b51)])) _
      refine XS.l2dS X252.here hx rfl (hb hby d1_102) rfl rfl ?_
      show Steps p.tables e below (T252.setTop (mkF m 103 #[.val (.ref a1), .val (.ref a2), .val (.int (2 : Int32))] [(.double (FP.l2d x2)), (.double (FP.dmul (FP.i2d (2 : Int32)) (FP.i2d (2 : Int32)))), (.double (FP.dadd (FP.dadd (0 : UInt64) (FP.dmul (FP.dmul (FP.i2d (0 : Int32)) (FP.i2d (0 : Int32))) (FP.l2d x0))) (FP.dmul (FP.dmul (FP.i2d (1 : Int32)) (FP.i2d (1 : Int32))) (FP.l2d x1)))), (.int ((2 : Int32) + (1 : Int32))), (.ref b51)])) _
      refine XS.dmulS X252.here hx rfl (hb hby d1_103) rfl (own_n2 _ _) rfl ?_
      exact k)
  have nn2 := own_n3 nn1 (2 : Int32) x2
  have J260 : ∀ t, Steps p.tables e below (T252.setTop (mkF m 105 #[.val (.ref a1), .val (.ref a2), .val (.int (2 : Int32))] [(.double (FP.dadd (FP.dadd (FP.dadd (0 : UInt64) (FP.dmul (FP.dmul (FP.i2d (0 : Int32)) (FP.i2d (0 : Int32))) (FP.l2d x0))) (FP.dmul (FP.dmul (FP.i2d (1 : Int32)) (FP.i2d (1 : Int32))) (FP.l2d x1))) (FP.dmul (FP.dmul (FP.i2d (2 : Int32)) (FP.i2d (2 : Int32))) (FP.l2d x2)))), (.int ((2 : Int32) + (1 : Int32))), (.ref b51)])) t → Steps p.tables e below (s₁.setTop (entryFrame m #[(.ref a1), (.ref a2)] 3)) t := fun t k => J259 t (by
      show Steps p.tables e below (T252.setTop (mkF m 104 #[.val (.ref a1), .val (.ref a2), .val (.int (2 : Int32))] [(.double (FP.dmul (FP.dmul (FP.i2d (2 : Int32)) (FP.i2d (2 : Int32))) (FP.l2d x2))), (.double (FP.dadd (FP.dadd (0 : UInt64) (FP.dmul (FP.dmul (FP.i2d (0 : Int32)) (FP.i2d (0 : Int32))) (FP.l2d x0))) (FP.dmul (FP.dmul (FP.i2d (1 : Int32)) (FP.i2d (1 : Int32))) (FP.l2d x1)))), (.int ((2 : Int32) + (1 : Int32))), (.ref b51)])) _
      refine XS.daddS X252.here hx rfl (hb hby d1_104) rfl nn2 rfl ?_
      exact k)
  obtain ⟨T261, h261, X261, e261, W261, st261⟩ := stD X252 hx hZ e252 f256 (j := ((2 : Int32) + (1 : Int32))) (own_inb L198 (by decide) (by decide : ((2 : Int32) + (1 : Int32)).toNatClampNeg = 3) (by decide)) (g := (mkF m 105 #[.val (.ref a1), .val (.ref a2), .val (.int (2 : Int32))] [(.double (FP.dadd (FP.dadd (FP.dadd (0 : UInt64) (FP.dmul (FP.dmul (FP.i2d (0 : Int32)) (FP.i2d (0 : Int32))) (FP.l2d x0))) (FP.dmul (FP.dmul (FP.i2d (1 : Int32)) (FP.i2d (1 : Int32))) (FP.l2d x1))) (FP.dmul (FP.dmul (FP.i2d (2 : Int32)) (FP.i2d (2 : Int32))) (FP.l2d x2)))), (.int ((2 : Int32) + (1 : Int32))), (.ref b51)])) rfl rfl (hb hby d1_105)
  have J262 : ∀ t, Steps p.tables e below (T261.setTop (mkF m 106 #[.val (.ref a1), .val (.ref a2), .val (.int (2 : Int32))] [])) t → Steps p.tables e below (s₁.setTop (entryFrame m #[(.ref a1), (.ref a2)] 3)) t := fun t k => J260 t (st261 t k)
  have Z263 : n0 ≤ h261.size := Nat.le_trans Z242 (Keep.of_wr W261).1
  have KK264 : Keep h0 h261 [a1] := KK243.wr W261 (Or.inr sz62)
  have N265 := Fr.snoc X261 N244 ge61
  obtain ⟨cl261, hcl261⟩ : ∃ z, z = cl198.setSlot (((2 : Int32) + (1 : Int32))).toNatClampNeg (.double (FP.dadd (FP.dadd (FP.dadd (0 : UInt64) (FP.dmul (FP.dmul (FP.i2d (0 : Int32)) (FP.i2d (0 : Int32))) (FP.l2d x0))) (FP.dmul (FP.dmul (FP.i2d (1 : Int32)) (FP.i2d (1 : Int32))) (FP.l2d x1))) (FP.dmul (FP.dmul (FP.i2d (2 : Int32)) (FP.i2d (2 : Int32))) (FP.l2d x2)))) := ⟨_, rfl⟩
  have Aw261 : Arr Z h261 b51 cl261 .double := by rw [hcl261]; exact f256.same W261
  have L261 := own_LAset L198 (by decide : ((2 : Int32) + (1 : Int32)).toNatClampNeg = 3) (by decide) hcl261
  have J266 : ∀ t, Steps p.tables e below (T261.setTop (mkF m 109 #[.val (.ref a1), .val (.ref a2), .val (.int ((2 : Int32) + (1 : Int32)))] [])) t → Steps p.tables e below (s₁.setTop (entryFrame m #[(.ref a1), (.ref a2)] 3)) t := fun t k => J262 t (by
      show Steps p.tables e below (T261.setTop (mkF m 106 #[.val (.ref a1), .val (.ref a2), .val (.int (2 : Int32))] [])) _
      refine XS.iinc X261.here hx rfl (hb hby d1_106) rfl (l' := #[.val (.ref a1), .val (.ref a2), .val (.int ((2 : Int32) + (1 : Int32)))]) rfl ?_
      exact k)
  have J267 : ∀ t, Steps p.tables e below (T261.setTop (mkF m 109 #[.val (.ref a1), .val (.ref a2), .val (.int (3 : Int32))] [])) t → Steps p.tables e below (s₁.setTop (entryFrame m #[(.ref a1), (.ref a2)] 3)) t := fun t k => J266 t (by rw [(by decide : ((2 : Int32) + (1 : Int32)) = (3 : Int32))]; exact k)
  have J268 : ∀ t, Steps p.tables e below (T261.setTop (mkF m 38 #[.val (.ref a1), .val (.ref a2), .val (.int (3 : Int32))] [(.ref a2), (.int (3 : Int32))])) t → Steps p.tables e below (s₁.setTop (entryFrame m #[(.ref a1), (.ref a2)] 3)) t := fun t k => J267 t (by
      show Steps p.tables e below (T261.setTop (mkF m 109 #[.val (.ref a1), .val (.ref a2), .val (.int (3 : Int32))] [])) _
      refine XS.goto X261.here hx rfl (pc0 := 109) (pc' := 36) rfl (hb hby d1_109) (by decide) (by decide) ?_
      show Steps p.tables e below (T261.setTop (mkF m 36 #[.val (.ref a1), .val (.ref a2), .val (.int (3 : Int32))] [])) _
      refine XS.iloadN X261.here hx rfl (hb hby d1_36) rfl ?_
      show Steps p.tables e below (T261.setTop (mkF m 37 #[.val (.ref a1), .val (.ref a2), .val (.int (3 : Int32))] [(.int (3 : Int32))])) _
      refine XS.aloadN X261.here hx rfl (hb hby d1_37) rfl rfl ?_
      exact k)
  have f269 := f258.other W261 ne58
  have J270 : ∀ t, Steps p.tables e below (T261.setTop (mkF m 43 #[.val (.ref a1), .val (.ref a2), .val (.int (3 : Int32))] [(.ref a1)])) t → Steps p.tables e below (s₁.setTop (entryFrame m #[(.ref a1), (.ref a2)] 3)) t := fun t k => J268 t (by
      show Steps p.tables e below (T261.setTop (mkF m 38 #[.val (.ref a1), .val (.ref a2), .val (.int (3 : Int32))] [(.ref a2), (.int (3 : Int32))])) _
      refine X261.arraylength hx (cell := clh) (by rw [e261]; exact f269.1) (State.isArrayOf_alike hZ.alike f269.2.1) (g := (mkF m 38 #[.val (.ref a1), .val (.ref a2), .val (.int (3 : Int32))] [(.ref a2), (.int (3 : Int32))])) rfl (rest := [(.int (3 : Int32))]) rfl (hb hby d1_38) _ ?_
      rw [(own_size Lh)]
      show Steps p.tables e below (T261.setTop (mkF m 39 #[.val (.ref a1), .val (.ref a2), .val (.int (3 : Int32))] [(.int (Int32.ofNat 4)), (.int (3 : Int32))])) _
      refine XS.icmpNo X261.here hx rfl (hb hby d1_39) rfl (tlt (by decide)).2.1 ?_
      show Steps p.tables e below (T261.setTop (mkF m 42 #[.val (.ref a1), .val (.ref a2), .val (.int (3 : Int32))] [])) _
      refine XS.aloadN X261.here hx rfl (hb hby d1_42) rfl rfl ?_
      exact k)
  have f271 := f210.other W220 (Or.inl ne8)
  have f272 := f271.other W240 (Or.inl ne30)
  have f273 := f272.other W261 (Or.inl ne57)
  obtain ⟨T274, X274, e274, st274⟩ := getF X261 hx hZ hown (host := "") (Or.inl (hw _ (List.mem_of_getElem? (i := 10) rfl))) Via.refl e261 f273 (g := (mkF m 43 #[.val (.ref a1), .val (.ref a2), .val (.int (3 : Int32))] [(.ref a1)])) rfl rfl (hb hby d1_43)
  have J275 : ∀ t, Steps p.tables e below (T274.setTop (mkF m 46 #[.val (.ref a1), .val (.ref a2), .val (.int (3 : Int32))] [(.ref b6)])) t → Steps p.tables e below (s₁.setTop (entryFrame m #[(.ref a1), (.ref a2)] 3)) t := fun t k => J270 t (st274 t k)
  have J276 : ∀ t, Steps p.tables e below (T274.setTop (mkF m 50 #[.val (.ref a1), .val (.ref a2), .val (.int (3 : Int32))] [(.ref a1), (.int ((3 : Int32) + (1 : Int32))), (.ref b6)])) t → Steps p.tables e below (s₁.setTop (entryFrame m #[(.ref a1), (.ref a2)] 3)) t := fun t k => J275 t (by
      show Steps p.tables e below (T274.setTop (mkF m 46 #[.val (.ref a1), .val (.ref a2), .val (.int (3 : Int32))] [(.ref b6)])) _
      refine XS.iloadN X274.here hx rfl (hb hby d1_46) rfl ?_
      show Steps p.tables e below (T274.setTop (mkF m 47 #[.val (.ref a1), .val (.ref a2), .val (.int (3 : Int32))] [(.int (3 : Int32)), (.ref b6)])) _
      refine XS.iconst X274.here hx rfl (hb hby d1_47) ?_
      show Steps p.tables e below (T274.setTop (mkF m 48 #[.val (.ref a1), .val (.ref a2), .val (.int (3 : Int32))] [(.int (1 : Int32)), (.int (3 : Int32)), (.ref b6)])) _
      refine XS.iadd X274.here hx rfl (hb hby d1_48) rfl ?_
      show Steps p.tables e below (T274.setTop (mkF m 49 #[.val (.ref a1), .val (.ref a2), .val (.int (3 : Int32))] [(.int ((3 : Int32) + (1 : Int32))), (.ref b6)])) _
      refine XS.aloadN X274.here hx rfl (hb hby d1_49) rfl rfl ?_
      exact k)
  obtain ⟨T277, X277, e277, st277⟩ := getF X274 hx hZ hown (host := "") (Or.inl (hw _ (List.mem_of_getElem? (i := 10) rfl))) Via.refl e274 f273 (g := (mkF m 50 #[.val (.ref a1), .val (.ref a2), .val (.int (3 : Int32))] [(.ref a1), (.int ((3 : Int32) + (1 : Int32))), (.ref b6)])) rfl rfl (hb hby d1_50)
  have J278 : ∀ t, Steps p.tables e below (T277.setTop (mkF m 53 #[.val (.ref a1), .val (.ref a2), .val (.int (3 : Int32))] [(.ref b6), (.int ((3 : Int32) + (1 : Int32))), (.ref b6)])) t → Steps p.tables e below (s₁.setTop (entryFrame m #[(.ref a1), (.ref a2)] 3)) t := fun t k => J276 t (st277 t k)
  have J279 : ∀ t, Steps p.tables e below (T277.setTop (mkF m 54 #[.val (.ref a1), .val (.ref a2), .val (.int (3 : Int32))] [(.int (3 : Int32)), (.ref b6), (.int ((3 : Int32) + (1 : Int32))), (.ref b6)])) t → Steps p.tables e below (s₁.setTop (entryFrame m #[(.ref a1), (.ref a2)] 3)) t := fun t k => J278 t (by
      show Steps p.tables e below (T277.setTop (mkF m 53 #[.val (.ref a1), .val (.ref a2), .val (.int (3 : Int32))] [(.ref b6), (.int ((3 : Int32) + (1 : Int32))), (.ref b6)])) _
      refine XS.iloadN X277.here hx rfl (hb hby d1_53) rfl ?_
      exact k)
  have f280 := Aw220.other W240 ne32
  have f281 := f280.other W261 ne59
  have J282 : ∀ t, Steps p.tables e below (T277.setTop (mkF m 59 #[.val (.ref a1), .val (.ref a2), .val (.int (3 : Int32))] [(.long (((((0 : Int64) + x0) + x1) + x2) + x3)), (.int ((3 : Int32) + (1 : Int32))), (.ref b6)])) t → Steps p.tables e below (s₁.setTop (entryFrame m #[(.ref a1), (.ref a2)] 3)) t := fun t k => J279 t (by
      show Steps p.tables e below (T277.setTop (mkF m 54 #[.val (.ref a1), .val (.ref a2), .val (.int (3 : Int32))] [(.int (3 : Int32)), (.ref b6), (.int ((3 : Int32) + (1 : Int32))), (.ref b6)])) _
      refine X277.laload hx (j := (3 : Int32)) (v := (.long ((((0 : Int64) + x0) + x1) + x2))) (by rw [e277]; exact f281.1) (State.isArrayOf_alike hZ.alike f281.2.1) f281.2.2 (own_inb L220 (by decide) (by decide : (3 : Int32).toNatClampNeg = 3) (by decide)) (own_at L220 (by decide : (3 : Int32).toNatClampNeg = 3) (by decide) rfl) (g := (mkF m 54 #[.val (.ref a1), .val (.ref a2), .val (.int (3 : Int32))] [(.int (3 : Int32)), (.ref b6), (.int ((3 : Int32) + (1 : Int32))), (.ref b6)])) rfl rfl (hb hby d1_54) _ ?_
      show Steps p.tables e below (T277.setTop (mkF m 55 #[.val (.ref a1), .val (.ref a2), .val (.int (3 : Int32))] [(.long ((((0 : Int64) + x0) + x1) + x2)), (.int ((3 : Int32) + (1 : Int32))), (.ref b6)])) _
      refine XS.aloadN X277.here hx rfl (hb hby d1_55) rfl rfl ?_
      show Steps p.tables e below (T277.setTop (mkF m 56 #[.val (.ref a1), .val (.ref a2), .val (.int (3 : Int32))] [(.ref a2), (.long ((((0 : Int64) + x0) + x1) + x2)), (.int ((3 : Int32) + (1 : Int32))), (.ref b6)])) _
      refine XS.iloadN X277.here hx rfl (hb hby d1_56) rfl ?_
      show Steps p.tables e below (T277.setTop (mkF m 57 #[.val (.ref a1), .val (.ref a2), .val (.int (3 : Int32))] [(.int (3 : Int32)), (.ref a2), (.long ((((0 : Int64) + x0) + x1) + x2)), (.int ((3 : Int32) + (1 : Int32))), (.ref b6)])) _
      refine X277.laload hx (j := (3 : Int32)) (v := (.long x3)) (by rw [e277]; exact f269.1) (State.isArrayOf_alike hZ.alike f269.2.1) f269.2.2 (own_inb Lh (by decide) (by decide : (3 : Int32).toNatClampNeg = 3) (by decide)) (own_at Lh (by decide : (3 : Int32).toNatClampNeg = 3) (by decide) rfl) (g := (mkF m 57 #[.val (.ref a1), .val (.ref a2), .val (.int (3 : Int32))] [(.int (3 : Int32)), (.ref a2), (.long ((((0 : Int64) + x0) + x1) + x2)), (.int ((3 : Int32) + (1 : Int32))), (.ref b6)])) rfl rfl (hb hby d1_57) _ ?_
      show Steps p.tables e below (T277.setTop (mkF m 58 #[.val (.ref a1), .val (.ref a2), .val (.int (3 : Int32))] [(.long x3), (.long ((((0 : Int64) + x0) + x1) + x2)), (.int ((3 : Int32) + (1 : Int32))), (.ref b6)])) _
      refine XS.ladd X277.here hx rfl (hb hby d1_58) rfl ?_
      exact k)
  obtain ⟨T283, h283, X283, e283, W283, st283⟩ := stJ X277 hx hZ e277 f281 (j := ((3 : Int32) + (1 : Int32))) (own_inb L220 (by decide) (by decide : ((3 : Int32) + (1 : Int32)).toNatClampNeg = 4) (by decide)) (g := (mkF m 59 #[.val (.ref a1), .val (.ref a2), .val (.int (3 : Int32))] [(.long (((((0 : Int64) + x0) + x1) + x2) + x3)), (.int ((3 : Int32) + (1 : Int32))), (.ref b6)])) rfl rfl (hb hby d1_59)
  have J284 : ∀ t, Steps p.tables e below (T283.setTop (mkF m 60 #[.val (.ref a1), .val (.ref a2), .val (.int (3 : Int32))] [])) t → Steps p.tables e below (s₁.setTop (entryFrame m #[(.ref a1), (.ref a2)] 3)) t := fun t k => J282 t (st283 t k)
  have Z285 : n0 ≤ h283.size := Nat.le_trans Z263 (Keep.of_wr W283).1
  have KK286 : Keep h0 h283 [a1] := KK264.wr W283 (Or.inr sz11)
  have N287 := Fr.snoc X283 N265 ge10
  obtain ⟨cl283, hcl283⟩ : ∃ z, z = cl220.setSlot (((3 : Int32) + (1 : Int32))).toNatClampNeg (.long (((((0 : Int64) + x0) + x1) + x2) + x3)) := ⟨_, rfl⟩
  have Aw283 : Arr Z h283 b6 cl283 .long := by rw [hcl283]; exact f281.same W283
  have L283 := own_LAset L220 (by decide : ((3 : Int32) + (1 : Int32)).toNatClampNeg = 4) (by decide) hcl283
  have J288 : ∀ t, Steps p.tables e below (T283.setTop (mkF m 61 #[.val (.ref a1), .val (.ref a2), .val (.int (3 : Int32))] [(.ref a1)])) t → Steps p.tables e below (s₁.setTop (entryFrame m #[(.ref a1), (.ref a2)] 3)) t := fun t k => J284 t (by
      show Steps p.tables e below (T283.setTop (mkF m 60 #[.val (.ref a1), .val (.ref a2), .val (.int (3 : Int32))] [])) _
      refine XS.aloadN X283.here hx rfl (hb hby d1_60) rfl rfl ?_
      exact k)
  have f289 := f228.other W240 (Or.inl ne30)
  have f290 := f289.other W261 (Or.inl ne57)
  have f291 := f290.other W283 (Or.inl ne8)
  obtain ⟨T292, X292, e292, st292⟩ := getF X283 hx hZ hown (host := "") (Or.inl (hw _ (List.mem_of_getElem? (i := 12) rfl))) Via.refl e283 f291 (g := (mkF m 61 #[.val (.ref a1), .val (.ref a2), .val (.int (3 : Int32))] [(.ref a1)])) rfl rfl (hb hby d1_61)
  have J293 : ∀ t, Steps p.tables e below (T292.setTop (mkF m 64 #[.val (.ref a1), .val (.ref a2), .val (.int (3 : Int32))] [(.ref b26)])) t → Steps p.tables e below (s₁.setTop (entryFrame m #[(.ref a1), (.ref a2)] 3)) t := fun t k => J288 t (st292 t k)
  have J294 : ∀ t, Steps p.tables e below (T292.setTop (mkF m 68 #[.val (.ref a1), .val (.ref a2), .val (.int (3 : Int32))] [(.ref a1), (.int ((3 : Int32) + (1 : Int32))), (.ref b26)])) t → Steps p.tables e below (s₁.setTop (entryFrame m #[(.ref a1), (.ref a2)] 3)) t := fun t k => J293 t (by
      show Steps p.tables e below (T292.setTop (mkF m 64 #[.val (.ref a1), .val (.ref a2), .val (.int (3 : Int32))] [(.ref b26)])) _
      refine XS.iloadN X292.here hx rfl (hb hby d1_64) rfl ?_
      show Steps p.tables e below (T292.setTop (mkF m 65 #[.val (.ref a1), .val (.ref a2), .val (.int (3 : Int32))] [(.int (3 : Int32)), (.ref b26)])) _
      refine XS.iconst X292.here hx rfl (hb hby d1_65) ?_
      show Steps p.tables e below (T292.setTop (mkF m 66 #[.val (.ref a1), .val (.ref a2), .val (.int (3 : Int32))] [(.int (1 : Int32)), (.int (3 : Int32)), (.ref b26)])) _
      refine XS.iadd X292.here hx rfl (hb hby d1_66) rfl ?_
      show Steps p.tables e below (T292.setTop (mkF m 67 #[.val (.ref a1), .val (.ref a2), .val (.int (3 : Int32))] [(.int ((3 : Int32) + (1 : Int32))), (.ref b26)])) _
      refine XS.aloadN X292.here hx rfl (hb hby d1_67) rfl rfl ?_
      exact k)
  obtain ⟨T295, X295, e295, st295⟩ := getF X292 hx hZ hown (host := "") (Or.inl (hw _ (List.mem_of_getElem? (i := 12) rfl))) Via.refl e292 f291 (g := (mkF m 68 #[.val (.ref a1), .val (.ref a2), .val (.int (3 : Int32))] [(.ref a1), (.int ((3 : Int32) + (1 : Int32))), (.ref b26)])) rfl rfl (hb hby d1_68)
  have J296 : ∀ t, Steps p.tables e below (T295.setTop (mkF m 71 #[.val (.ref a1), .val (.ref a2), .val (.int (3 : Int32))] [(.ref b26), (.int ((3 : Int32) + (1 : Int32))), (.ref b26)])) t → Steps p.tables e below (s₁.setTop (entryFrame m #[(.ref a1), (.ref a2)] 3)) t := fun t k => J294 t (st295 t k)
  have J297 : ∀ t, Steps p.tables e below (T295.setTop (mkF m 72 #[.val (.ref a1), .val (.ref a2), .val (.int (3 : Int32))] [(.int (3 : Int32)), (.ref b26), (.int ((3 : Int32) + (1 : Int32))), (.ref b26)])) t → Steps p.tables e below (s₁.setTop (entryFrame m #[(.ref a1), (.ref a2)] 3)) t := fun t k => J296 t (by
      show Steps p.tables e below (T295.setTop (mkF m 71 #[.val (.ref a1), .val (.ref a2), .val (.int (3 : Int32))] [(.ref b26), (.int ((3 : Int32) + (1 : Int32))), (.ref b26)])) _
      refine XS.iloadN X295.here hx rfl (hb hby d1_71) rfl ?_
      exact k)
  have f298 := Aw240.other W261 ne60
  have f299 := f298.other W283 (Ne.symm ne32)
  have J300 : ∀ t, Steps p.tables e below (T295.setTop (mkF m 77 #[.val (.ref a1), .val (.ref a2), .val (.int (3 : Int32))] [(.int (3 : Int32)), (.ref a2), (.long ((3 : Int32).toInt64)), (.long ((((0 : Int64) + (((0 : Int32).toInt64) * x0)) + (((1 : Int32).toInt64) * x1)) + (((2 : Int32).toInt64) * x2))), (.int ((3 : Int32) + (1 : Int32))), (.ref b26)])) t → Steps p.tables e below (s₁.setTop (entryFrame m #[(.ref a1), (.ref a2)] 3)) t := fun t k => J297 t (by
      show Steps p.tables e below (T295.setTop (mkF m 72 #[.val (.ref a1), .val (.ref a2), .val (.int (3 : Int32))] [(.int (3 : Int32)), (.ref b26), (.int ((3 : Int32) + (1 : Int32))), (.ref b26)])) _
      refine X295.laload hx (j := (3 : Int32)) (v := (.long ((((0 : Int64) + (((0 : Int32).toInt64) * x0)) + (((1 : Int32).toInt64) * x1)) + (((2 : Int32).toInt64) * x2)))) (by rw [e295]; exact f299.1) (State.isArrayOf_alike hZ.alike f299.2.1) f299.2.2 (own_inb L240 (by decide) (by decide : (3 : Int32).toNatClampNeg = 3) (by decide)) (own_at L240 (by decide : (3 : Int32).toNatClampNeg = 3) (by decide) rfl) (g := (mkF m 72 #[.val (.ref a1), .val (.ref a2), .val (.int (3 : Int32))] [(.int (3 : Int32)), (.ref b26), (.int ((3 : Int32) + (1 : Int32))), (.ref b26)])) rfl rfl (hb hby d1_72) _ ?_
      show Steps p.tables e below (T295.setTop (mkF m 73 #[.val (.ref a1), .val (.ref a2), .val (.int (3 : Int32))] [(.long ((((0 : Int64) + (((0 : Int32).toInt64) * x0)) + (((1 : Int32).toInt64) * x1)) + (((2 : Int32).toInt64) * x2))), (.int ((3 : Int32) + (1 : Int32))), (.ref b26)])) _
      refine XS.iloadN X295.here hx rfl (hb hby d1_73) rfl ?_
      show Steps p.tables e below (T295.setTop (mkF m 74 #[.val (.ref a1), .val (.ref a2), .val (.int (3 : Int32))] [(.int (3 : Int32)), (.long ((((0 : Int64) + (((0 : Int32).toInt64) * x0)) + (((1 : Int32).toInt64) * x1)) + (((2 : Int32).toInt64) * x2))), (.int ((3 : Int32) + (1 : Int32))), (.ref b26)])) _
      refine XS.i2l X295.here hx rfl (hb hby d1_74) rfl ?_
      show Steps p.tables e below (T295.setTop (mkF m 75 #[.val (.ref a1), .val (.ref a2), .val (.int (3 : Int32))] [(.long ((3 : Int32).toInt64)), (.long ((((0 : Int64) + (((0 : Int32).toInt64) * x0)) + (((1 : Int32).toInt64) * x1)) + (((2 : Int32).toInt64) * x2))), (.int ((3 : Int32) + (1 : Int32))), (.ref b26)])) _
      refine XS.aloadN X295.here hx rfl (hb hby d1_75) rfl rfl ?_
      show Steps p.tables e below (T295.setTop (mkF m 76 #[.val (.ref a1), .val (.ref a2), .val (.int (3 : Int32))] [(.ref a2), (.long ((3 : Int32).toInt64)), (.long ((((0 : Int64) + (((0 : Int32).toInt64) * x0)) + (((1 : Int32).toInt64) * x1)) + (((2 : Int32).toInt64) * x2))), (.int ((3 : Int32) + (1 : Int32))), (.ref b26)])) _
      refine XS.iloadN X295.here hx rfl (hb hby d1_76) rfl ?_
      exact k)
  have f301 := f269.other W283 ne9
  have J302 : ∀ t, Steps p.tables e below (T295.setTop (mkF m 80 #[.val (.ref a1), .val (.ref a2), .val (.int (3 : Int32))] [(.long (((((0 : Int64) + (((0 : Int32).toInt64) * x0)) + (((1 : Int32).toInt64) * x1)) + (((2 : Int32).toInt64) * x2)) + (((3 : Int32).toInt64) * x3))), (.int ((3 : Int32) + (1 : Int32))), (.ref b26)])) t → Steps p.tables e below (s₁.setTop (entryFrame m #[(.ref a1), (.ref a2)] 3)) t := fun t k => J300 t (by
      show Steps p.tables e below (T295.setTop (mkF m 77 #[.val (.ref a1), .val (.ref a2), .val (.int (3 : Int32))] [(.int (3 : Int32)), (.ref a2), (.long ((3 : Int32).toInt64)), (.long ((((0 : Int64) + (((0 : Int32).toInt64) * x0)) + (((1 : Int32).toInt64) * x1)) + (((2 : Int32).toInt64) * x2))), (.int ((3 : Int32) + (1 : Int32))), (.ref b26)])) _
      refine X295.laload hx (j := (3 : Int32)) (v := (.long x3)) (by rw [e295]; exact f301.1) (State.isArrayOf_alike hZ.alike f301.2.1) f301.2.2 (own_inb Lh (by decide) (by decide : (3 : Int32).toNatClampNeg = 3) (by decide)) (own_at Lh (by decide : (3 : Int32).toNatClampNeg = 3) (by decide) rfl) (g := (mkF m 77 #[.val (.ref a1), .val (.ref a2), .val (.int (3 : Int32))] [(.int (3 : Int32)), (.ref a2), (.long ((3 : Int32).toInt64)), (.long ((((0 : Int64) + (((0 : Int32).toInt64) * x0)) + (((1 : Int32).toInt64) * x1)) + (((2 : Int32).toInt64) * x2))), (.int ((3 : Int32) + (1 : Int32))), (.ref b26)])) rfl rfl (hb hby d1_77) _ ?_
      show Steps p.tables e below (T295.setTop (mkF m 78 #[.val (.ref a1), .val (.ref a2), .val (.int (3 : Int32))] [(.long x3), (.long ((3 : Int32).toInt64)), (.long ((((0 : Int64) + (((0 : Int32).toInt64) * x0)) + (((1 : Int32).toInt64) * x1)) + (((2 : Int32).toInt64) * x2))), (.int ((3 : Int32) + (1 : Int32))), (.ref b26)])) _
      refine XS.lmul X295.here hx rfl (hb hby d1_78) rfl ?_
      show Steps p.tables e below (T295.setTop (mkF m 79 #[.val (.ref a1), .val (.ref a2), .val (.int (3 : Int32))] [(.long (((3 : Int32).toInt64) * x3)), (.long ((((0 : Int64) + (((0 : Int32).toInt64) * x0)) + (((1 : Int32).toInt64) * x1)) + (((2 : Int32).toInt64) * x2))), (.int ((3 : Int32) + (1 : Int32))), (.ref b26)])) _
      refine XS.ladd X295.here hx rfl (hb hby d1_79) rfl ?_
      exact k)
  obtain ⟨T303, h303, X303, e303, W303, st303⟩ := stJ X295 hx hZ e295 f299 (j := ((3 : Int32) + (1 : Int32))) (own_inb L240 (by decide) (by decide : ((3 : Int32) + (1 : Int32)).toNatClampNeg = 4) (by decide)) (g := (mkF m 80 #[.val (.ref a1), .val (.ref a2), .val (.int (3 : Int32))] [(.long (((((0 : Int64) + (((0 : Int32).toInt64) * x0)) + (((1 : Int32).toInt64) * x1)) + (((2 : Int32).toInt64) * x2)) + (((3 : Int32).toInt64) * x3))), (.int ((3 : Int32) + (1 : Int32))), (.ref b26)])) rfl rfl (hb hby d1_80)
  have J304 : ∀ t, Steps p.tables e below (T303.setTop (mkF m 81 #[.val (.ref a1), .val (.ref a2), .val (.int (3 : Int32))] [])) t → Steps p.tables e below (s₁.setTop (entryFrame m #[(.ref a1), (.ref a2)] 3)) t := fun t k => J302 t (st303 t k)
  have Z305 : n0 ≤ h303.size := Nat.le_trans Z285 (Keep.of_wr W303).1
  have KK306 : Keep h0 h303 [a1] := KK286.wr W303 (Or.inr sz34)
  have N307 := Fr.snoc X303 N287 ge33
  obtain ⟨cl303, hcl303⟩ : ∃ z, z = cl240.setSlot (((3 : Int32) + (1 : Int32))).toNatClampNeg (.long (((((0 : Int64) + (((0 : Int32).toInt64) * x0)) + (((1 : Int32).toInt64) * x1)) + (((2 : Int32).toInt64) * x2)) + (((3 : Int32).toInt64) * x3))) := ⟨_, rfl⟩
  have Aw303 : Arr Z h303 b26 cl303 .long := by rw [hcl303]; exact f299.same W303
  have L303 := own_LAset L240 (by decide : ((3 : Int32) + (1 : Int32)).toNatClampNeg = 4) (by decide) hcl303
  have J308 : ∀ t, Steps p.tables e below (T303.setTop (mkF m 82 #[.val (.ref a1), .val (.ref a2), .val (.int (3 : Int32))] [(.ref a1)])) t → Steps p.tables e below (s₁.setTop (entryFrame m #[(.ref a1), (.ref a2)] 3)) t := fun t k => J304 t (by
      show Steps p.tables e below (T303.setTop (mkF m 81 #[.val (.ref a1), .val (.ref a2), .val (.int (3 : Int32))] [])) _
      refine XS.aloadN X303.here hx rfl (hb hby d1_81) rfl rfl ?_
      exact k)
  have f309 := f248.other W261 (Or.inl ne57)
  have f310 := f309.other W283 (Or.inl ne8)
  have f311 := f310.other W303 (Or.inl ne30)
  obtain ⟨T312, X312, e312, st312⟩ := getF X303 hx hZ hown (host := "") (Or.inl (hw _ (List.mem_of_getElem? (i := 15) rfl))) Via.refl e303 f311 (g := (mkF m 82 #[.val (.ref a1), .val (.ref a2), .val (.int (3 : Int32))] [(.ref a1)])) rfl rfl (hb hby d1_82)
  have J313 : ∀ t, Steps p.tables e below (T312.setTop (mkF m 85 #[.val (.ref a1), .val (.ref a2), .val (.int (3 : Int32))] [(.ref b51)])) t → Steps p.tables e below (s₁.setTop (entryFrame m #[(.ref a1), (.ref a2)] 3)) t := fun t k => J308 t (st312 t k)
  have J314 : ∀ t, Steps p.tables e below (T312.setTop (mkF m 89 #[.val (.ref a1), .val (.ref a2), .val (.int (3 : Int32))] [(.ref a1), (.int ((3 : Int32) + (1 : Int32))), (.ref b51)])) t → Steps p.tables e below (s₁.setTop (entryFrame m #[(.ref a1), (.ref a2)] 3)) t := fun t k => J313 t (by
      show Steps p.tables e below (T312.setTop (mkF m 85 #[.val (.ref a1), .val (.ref a2), .val (.int (3 : Int32))] [(.ref b51)])) _
      refine XS.iloadN X312.here hx rfl (hb hby d1_85) rfl ?_
      show Steps p.tables e below (T312.setTop (mkF m 86 #[.val (.ref a1), .val (.ref a2), .val (.int (3 : Int32))] [(.int (3 : Int32)), (.ref b51)])) _
      refine XS.iconst X312.here hx rfl (hb hby d1_86) ?_
      show Steps p.tables e below (T312.setTop (mkF m 87 #[.val (.ref a1), .val (.ref a2), .val (.int (3 : Int32))] [(.int (1 : Int32)), (.int (3 : Int32)), (.ref b51)])) _
      refine XS.iadd X312.here hx rfl (hb hby d1_87) rfl ?_
      show Steps p.tables e below (T312.setTop (mkF m 88 #[.val (.ref a1), .val (.ref a2), .val (.int (3 : Int32))] [(.int ((3 : Int32) + (1 : Int32))), (.ref b51)])) _
      refine XS.aloadN X312.here hx rfl (hb hby d1_88) rfl rfl ?_
      exact k)
  obtain ⟨T315, X315, e315, st315⟩ := getF X312 hx hZ hown (host := "") (Or.inl (hw _ (List.mem_of_getElem? (i := 15) rfl))) Via.refl e312 f311 (g := (mkF m 89 #[.val (.ref a1), .val (.ref a2), .val (.int (3 : Int32))] [(.ref a1), (.int ((3 : Int32) + (1 : Int32))), (.ref b51)])) rfl rfl (hb hby d1_89)
  have J316 : ∀ t, Steps p.tables e below (T315.setTop (mkF m 92 #[.val (.ref a1), .val (.ref a2), .val (.int (3 : Int32))] [(.ref b51), (.int ((3 : Int32) + (1 : Int32))), (.ref b51)])) t → Steps p.tables e below (s₁.setTop (entryFrame m #[(.ref a1), (.ref a2)] 3)) t := fun t k => J314 t (st315 t k)
  have J317 : ∀ t, Steps p.tables e below (T315.setTop (mkF m 93 #[.val (.ref a1), .val (.ref a2), .val (.int (3 : Int32))] [(.int (3 : Int32)), (.ref b51), (.int ((3 : Int32) + (1 : Int32))), (.ref b51)])) t → Steps p.tables e below (s₁.setTop (entryFrame m #[(.ref a1), (.ref a2)] 3)) t := fun t k => J316 t (by
      show Steps p.tables e below (T315.setTop (mkF m 92 #[.val (.ref a1), .val (.ref a2), .val (.int (3 : Int32))] [(.ref b51), (.int ((3 : Int32) + (1 : Int32))), (.ref b51)])) _
      refine XS.iloadN X315.here hx rfl (hb hby d1_92) rfl ?_
      exact k)
  have f318 := Aw261.other W283 (Ne.symm ne59)
  have f319 := f318.other W303 (Ne.symm ne60)
  have J320 : ∀ t, Steps p.tables e below (T315.setTop (mkF m 101 #[.val (.ref a1), .val (.ref a2), .val (.int (3 : Int32))] [(.int (3 : Int32)), (.ref a2), (.double (FP.dmul (FP.i2d (3 : Int32)) (FP.i2d (3 : Int32)))), (.double (FP.dadd (FP.dadd (FP.dadd (0 : UInt64) (FP.dmul (FP.dmul (FP.i2d (0 : Int32)) (FP.i2d (0 : Int32))) (FP.l2d x0))) (FP.dmul (FP.dmul (FP.i2d (1 : Int32)) (FP.i2d (1 : Int32))) (FP.l2d x1))) (FP.dmul (FP.dmul (FP.i2d (2 : Int32)) (FP.i2d (2 : Int32))) (FP.l2d x2)))), (.int ((3 : Int32) + (1 : Int32))), (.ref b51)])) t → Steps p.tables e below (s₁.setTop (entryFrame m #[(.ref a1), (.ref a2)] 3)) t := fun t k => J317 t (by
      show Steps p.tables e below (T315.setTop (mkF m 93 #[.val (.ref a1), .val (.ref a2), .val (.int (3 : Int32))] [(.int (3 : Int32)), (.ref b51), (.int ((3 : Int32) + (1 : Int32))), (.ref b51)])) _
      refine X315.daload hx (j := (3 : Int32)) (v := (.double (FP.dadd (FP.dadd (FP.dadd (0 : UInt64) (FP.dmul (FP.dmul (FP.i2d (0 : Int32)) (FP.i2d (0 : Int32))) (FP.l2d x0))) (FP.dmul (FP.dmul (FP.i2d (1 : Int32)) (FP.i2d (1 : Int32))) (FP.l2d x1))) (FP.dmul (FP.dmul (FP.i2d (2 : Int32)) (FP.i2d (2 : Int32))) (FP.l2d x2))))) (by rw [e315]; exact f319.1) (State.isArrayOf_alike hZ.alike f319.2.1) f319.2.2 (own_inb L261 (by decide) (by decide : (3 : Int32).toNatClampNeg = 3) (by decide)) (own_at L261 (by decide : (3 : Int32).toNatClampNeg = 3) (by decide) rfl) (g := (mkF m 93 #[.val (.ref a1), .val (.ref a2), .val (.int (3 : Int32))] [(.int (3 : Int32)), (.ref b51), (.int ((3 : Int32) + (1 : Int32))), (.ref b51)])) rfl rfl (hb hby d1_93) _ ?_
      show Steps p.tables e below (T315.setTop (mkF m 94 #[.val (.ref a1), .val (.ref a2), .val (.int (3 : Int32))] [(.double (FP.dadd (FP.dadd (FP.dadd (0 : UInt64) (FP.dmul (FP.dmul (FP.i2d (0 : Int32)) (FP.i2d (0 : Int32))) (FP.l2d x0))) (FP.dmul (FP.dmul (FP.i2d (1 : Int32)) (FP.i2d (1 : Int32))) (FP.l2d x1))) (FP.dmul (FP.dmul (FP.i2d (2 : Int32)) (FP.i2d (2 : Int32))) (FP.l2d x2)))), (.int ((3 : Int32) + (1 : Int32))), (.ref b51)])) _
      refine XS.iloadN X315.here hx rfl (hb hby d1_94) rfl ?_
      show Steps p.tables e below (T315.setTop (mkF m 95 #[.val (.ref a1), .val (.ref a2), .val (.int (3 : Int32))] [(.int (3 : Int32)), (.double (FP.dadd (FP.dadd (FP.dadd (0 : UInt64) (FP.dmul (FP.dmul (FP.i2d (0 : Int32)) (FP.i2d (0 : Int32))) (FP.l2d x0))) (FP.dmul (FP.dmul (FP.i2d (1 : Int32)) (FP.i2d (1 : Int32))) (FP.l2d x1))) (FP.dmul (FP.dmul (FP.i2d (2 : Int32)) (FP.i2d (2 : Int32))) (FP.l2d x2)))), (.int ((3 : Int32) + (1 : Int32))), (.ref b51)])) _
      refine XS.i2dS X315.here hx rfl (hb hby d1_95) rfl rfl ?_
      show Steps p.tables e below (T315.setTop (mkF m 96 #[.val (.ref a1), .val (.ref a2), .val (.int (3 : Int32))] [(.double (FP.i2d (3 : Int32))), (.double (FP.dadd (FP.dadd (FP.dadd (0 : UInt64) (FP.dmul (FP.dmul (FP.i2d (0 : Int32)) (FP.i2d (0 : Int32))) (FP.l2d x0))) (FP.dmul (FP.dmul (FP.i2d (1 : Int32)) (FP.i2d (1 : Int32))) (FP.l2d x1))) (FP.dmul (FP.dmul (FP.i2d (2 : Int32)) (FP.i2d (2 : Int32))) (FP.l2d x2)))), (.int ((3 : Int32) + (1 : Int32))), (.ref b51)])) _
      refine XS.iloadN X315.here hx rfl (hb hby d1_96) rfl ?_
      show Steps p.tables e below (T315.setTop (mkF m 97 #[.val (.ref a1), .val (.ref a2), .val (.int (3 : Int32))] [(.int (3 : Int32)), (.double (FP.i2d (3 : Int32))), (.double (FP.dadd (FP.dadd (FP.dadd (0 : UInt64) (FP.dmul (FP.dmul (FP.i2d (0 : Int32)) (FP.i2d (0 : Int32))) (FP.l2d x0))) (FP.dmul (FP.dmul (FP.i2d (1 : Int32)) (FP.i2d (1 : Int32))) (FP.l2d x1))) (FP.dmul (FP.dmul (FP.i2d (2 : Int32)) (FP.i2d (2 : Int32))) (FP.l2d x2)))), (.int ((3 : Int32) + (1 : Int32))), (.ref b51)])) _
      refine XS.i2dS X315.here hx rfl (hb hby d1_97) rfl rfl ?_
      show Steps p.tables e below (T315.setTop (mkF m 98 #[.val (.ref a1), .val (.ref a2), .val (.int (3 : Int32))] [(.double (FP.i2d (3 : Int32))), (.double (FP.i2d (3 : Int32))), (.double (FP.dadd (FP.dadd (FP.dadd (0 : UInt64) (FP.dmul (FP.dmul (FP.i2d (0 : Int32)) (FP.i2d (0 : Int32))) (FP.l2d x0))) (FP.dmul (FP.dmul (FP.i2d (1 : Int32)) (FP.i2d (1 : Int32))) (FP.l2d x1))) (FP.dmul (FP.dmul (FP.i2d (2 : Int32)) (FP.i2d (2 : Int32))) (FP.l2d x2)))), (.int ((3 : Int32) + (1 : Int32))), (.ref b51)])) _
      refine XS.dmulS X315.here hx rfl (hb hby d1_98) rfl (own_n1 _) rfl ?_
      show Steps p.tables e below (T315.setTop (mkF m 99 #[.val (.ref a1), .val (.ref a2), .val (.int (3 : Int32))] [(.double (FP.dmul (FP.i2d (3 : Int32)) (FP.i2d (3 : Int32)))), (.double (FP.dadd (FP.dadd (FP.dadd (0 : UInt64) (FP.dmul (FP.dmul (FP.i2d (0 : Int32)) (FP.i2d (0 : Int32))) (FP.l2d x0))) (FP.dmul (FP.dmul (FP.i2d (1 : Int32)) (FP.i2d (1 : Int32))) (FP.l2d x1))) (FP.dmul (FP.dmul (FP.i2d (2 : Int32)) (FP.i2d (2 : Int32))) (FP.l2d x2)))), (.int ((3 : Int32) + (1 : Int32))), (.ref b51)])) _
      refine XS.aloadN X315.here hx rfl (hb hby d1_99) rfl rfl ?_
      show Steps p.tables e below (T315.setTop (mkF m 100 #[.val (.ref a1), .val (.ref a2), .val (.int (3 : Int32))] [(.ref a2), (.double (FP.dmul (FP.i2d (3 : Int32)) (FP.i2d (3 : Int32)))), (.double (FP.dadd (FP.dadd (FP.dadd (0 : UInt64) (FP.dmul (FP.dmul (FP.i2d (0 : Int32)) (FP.i2d (0 : Int32))) (FP.l2d x0))) (FP.dmul (FP.dmul (FP.i2d (1 : Int32)) (FP.i2d (1 : Int32))) (FP.l2d x1))) (FP.dmul (FP.dmul (FP.i2d (2 : Int32)) (FP.i2d (2 : Int32))) (FP.l2d x2)))), (.int ((3 : Int32) + (1 : Int32))), (.ref b51)])) _
      refine XS.iloadN X315.here hx rfl (hb hby d1_100) rfl ?_
      exact k)
  have f321 := f301.other W303 ne31
  have J322 : ∀ t, Steps p.tables e below (T315.setTop (mkF m 104 #[.val (.ref a1), .val (.ref a2), .val (.int (3 : Int32))] [(.double (FP.dmul (FP.dmul (FP.i2d (3 : Int32)) (FP.i2d (3 : Int32))) (FP.l2d x3))), (.double (FP.dadd (FP.dadd (FP.dadd (0 : UInt64) (FP.dmul (FP.dmul (FP.i2d (0 : Int32)) (FP.i2d (0 : Int32))) (FP.l2d x0))) (FP.dmul (FP.dmul (FP.i2d (1 : Int32)) (FP.i2d (1 : Int32))) (FP.l2d x1))) (FP.dmul (FP.dmul (FP.i2d (2 : Int32)) (FP.i2d (2 : Int32))) (FP.l2d x2)))), (.int ((3 : Int32) + (1 : Int32))), (.ref b51)])) t → Steps p.tables e below (s₁.setTop (entryFrame m #[(.ref a1), (.ref a2)] 3)) t := fun t k => J320 t (by
      show Steps p.tables e below (T315.setTop (mkF m 101 #[.val (.ref a1), .val (.ref a2), .val (.int (3 : Int32))] [(.int (3 : Int32)), (.ref a2), (.double (FP.dmul (FP.i2d (3 : Int32)) (FP.i2d (3 : Int32)))), (.double (FP.dadd (FP.dadd (FP.dadd (0 : UInt64) (FP.dmul (FP.dmul (FP.i2d (0 : Int32)) (FP.i2d (0 : Int32))) (FP.l2d x0))) (FP.dmul (FP.dmul (FP.i2d (1 : Int32)) (FP.i2d (1 : Int32))) (FP.l2d x1))) (FP.dmul (FP.dmul (FP.i2d (2 : Int32)) (FP.i2d (2 : Int32))) (FP.l2d x2)))), (.int ((3 : Int32) + (1 : Int32))), (.ref b51)])) _
      refine X315.laload hx (j := (3 : Int32)) (v := (.long x3)) (by rw [e315]; exact f321.1) (State.isArrayOf_alike hZ.alike f321.2.1) f321.2.2 (own_inb Lh (by decide) (by decide : (3 : Int32).toNatClampNeg = 3) (by decide)) (own_at Lh (by decide : (3 : Int32).toNatClampNeg = 3) (by decide) rfl) (g := (mkF m 101 #[.val (.ref a1), .val (.ref a2), .val (.int (3 : Int32))] [(.int (3 : Int32)), (.ref a2), (.double (FP.dmul (FP.i2d (3 : Int32)) (FP.i2d (3 : Int32)))), (.double (FP.dadd (FP.dadd (FP.dadd (0 : UInt64) (FP.dmul (FP.dmul (FP.i2d (0 : Int32)) (FP.i2d (0 : Int32))) (FP.l2d x0))) (FP.dmul (FP.dmul (FP.i2d (1 : Int32)) (FP.i2d (1 : Int32))) (FP.l2d x1))) (FP.dmul (FP.dmul (FP.i2d (2 : Int32)) (FP.i2d (2 : Int32))) (FP.l2d x2)))), (.int ((3 : Int32) + (1 : Int32))), (.ref b51)])) rfl rfl (hb hby d1_101) _ ?_
      show Steps p.tables e below (T315.setTop (mkF m 102 #[.val (.ref a1), .val (.ref a2), .val (.int (3 : Int32))] [(.long x3), (.double (FP.dmul (FP.i2d (3 : Int32)) (FP.i2d (3 : Int32)))), (.double (FP.dadd (FP.dadd (FP.dadd (0 : UInt64) (FP.dmul (FP.dmul (FP.i2d (0 : Int32)) (FP.i2d (0 : Int32))) (FP.l2d x0))) (FP.dmul (FP.dmul (FP.i2d (1 : Int32)) (FP.i2d (1 : Int32))) (FP.l2d x1))) (FP.dmul (FP.dmul (FP.i2d (2 : Int32)) (FP.i2d (2 : Int32))) (FP.l2d x2)))), (.int ((3 : Int32) + (1 : Int32))), (.ref b51)])) _
      refine XS.l2dS X315.here hx rfl (hb hby d1_102) rfl rfl ?_
      show Steps p.tables e below (T315.setTop (mkF m 103 #[.val (.ref a1), .val (.ref a2), .val (.int (3 : Int32))] [(.double (FP.l2d x3)), (.double (FP.dmul (FP.i2d (3 : Int32)) (FP.i2d (3 : Int32)))), (.double (FP.dadd (FP.dadd (FP.dadd (0 : UInt64) (FP.dmul (FP.dmul (FP.i2d (0 : Int32)) (FP.i2d (0 : Int32))) (FP.l2d x0))) (FP.dmul (FP.dmul (FP.i2d (1 : Int32)) (FP.i2d (1 : Int32))) (FP.l2d x1))) (FP.dmul (FP.dmul (FP.i2d (2 : Int32)) (FP.i2d (2 : Int32))) (FP.l2d x2)))), (.int ((3 : Int32) + (1 : Int32))), (.ref b51)])) _
      refine XS.dmulS X315.here hx rfl (hb hby d1_103) rfl (own_n2 _ _) rfl ?_
      exact k)
  have nn3 := own_n3 nn2 (3 : Int32) x3
  have J323 : ∀ t, Steps p.tables e below (T315.setTop (mkF m 105 #[.val (.ref a1), .val (.ref a2), .val (.int (3 : Int32))] [(.double (FP.dadd (FP.dadd (FP.dadd (FP.dadd (0 : UInt64) (FP.dmul (FP.dmul (FP.i2d (0 : Int32)) (FP.i2d (0 : Int32))) (FP.l2d x0))) (FP.dmul (FP.dmul (FP.i2d (1 : Int32)) (FP.i2d (1 : Int32))) (FP.l2d x1))) (FP.dmul (FP.dmul (FP.i2d (2 : Int32)) (FP.i2d (2 : Int32))) (FP.l2d x2))) (FP.dmul (FP.dmul (FP.i2d (3 : Int32)) (FP.i2d (3 : Int32))) (FP.l2d x3)))), (.int ((3 : Int32) + (1 : Int32))), (.ref b51)])) t → Steps p.tables e below (s₁.setTop (entryFrame m #[(.ref a1), (.ref a2)] 3)) t := fun t k => J322 t (by
      show Steps p.tables e below (T315.setTop (mkF m 104 #[.val (.ref a1), .val (.ref a2), .val (.int (3 : Int32))] [(.double (FP.dmul (FP.dmul (FP.i2d (3 : Int32)) (FP.i2d (3 : Int32))) (FP.l2d x3))), (.double (FP.dadd (FP.dadd (FP.dadd (0 : UInt64) (FP.dmul (FP.dmul (FP.i2d (0 : Int32)) (FP.i2d (0 : Int32))) (FP.l2d x0))) (FP.dmul (FP.dmul (FP.i2d (1 : Int32)) (FP.i2d (1 : Int32))) (FP.l2d x1))) (FP.dmul (FP.dmul (FP.i2d (2 : Int32)) (FP.i2d (2 : Int32))) (FP.l2d x2)))), (.int ((3 : Int32) + (1 : Int32))), (.ref b51)])) _
      refine XS.daddS X315.here hx rfl (hb hby d1_104) rfl nn3 rfl ?_
      exact k)
  obtain ⟨T324, h324, X324, e324, W324, st324⟩ := stD X315 hx hZ e315 f319 (j := ((3 : Int32) + (1 : Int32))) (own_inb L261 (by decide) (by decide : ((3 : Int32) + (1 : Int32)).toNatClampNeg = 4) (by decide)) (g := (mkF m 105 #[.val (.ref a1), .val (.ref a2), .val (.int (3 : Int32))] [(.double (FP.dadd (FP.dadd (FP.dadd (FP.dadd (0 : UInt64) (FP.dmul (FP.dmul (FP.i2d (0 : Int32)) (FP.i2d (0 : Int32))) (FP.l2d x0))) (FP.dmul (FP.dmul (FP.i2d (1 : Int32)) (FP.i2d (1 : Int32))) (FP.l2d x1))) (FP.dmul (FP.dmul (FP.i2d (2 : Int32)) (FP.i2d (2 : Int32))) (FP.l2d x2))) (FP.dmul (FP.dmul (FP.i2d (3 : Int32)) (FP.i2d (3 : Int32))) (FP.l2d x3)))), (.int ((3 : Int32) + (1 : Int32))), (.ref b51)])) rfl rfl (hb hby d1_105)
  have J325 : ∀ t, Steps p.tables e below (T324.setTop (mkF m 106 #[.val (.ref a1), .val (.ref a2), .val (.int (3 : Int32))] [])) t → Steps p.tables e below (s₁.setTop (entryFrame m #[(.ref a1), (.ref a2)] 3)) t := fun t k => J323 t (st324 t k)
  have Z326 : n0 ≤ h324.size := Nat.le_trans Z305 (Keep.of_wr W324).1
  have KK327 : Keep h0 h324 [a1] := KK306.wr W324 (Or.inr sz62)
  have N328 := Fr.snoc X324 N307 ge61
  obtain ⟨cl324, hcl324⟩ : ∃ z, z = cl261.setSlot (((3 : Int32) + (1 : Int32))).toNatClampNeg (.double (FP.dadd (FP.dadd (FP.dadd (FP.dadd (0 : UInt64) (FP.dmul (FP.dmul (FP.i2d (0 : Int32)) (FP.i2d (0 : Int32))) (FP.l2d x0))) (FP.dmul (FP.dmul (FP.i2d (1 : Int32)) (FP.i2d (1 : Int32))) (FP.l2d x1))) (FP.dmul (FP.dmul (FP.i2d (2 : Int32)) (FP.i2d (2 : Int32))) (FP.l2d x2))) (FP.dmul (FP.dmul (FP.i2d (3 : Int32)) (FP.i2d (3 : Int32))) (FP.l2d x3)))) := ⟨_, rfl⟩
  have Aw324 : Arr Z h324 b51 cl324 .double := by rw [hcl324]; exact f319.same W324
  have L324 := own_LAset L261 (by decide : ((3 : Int32) + (1 : Int32)).toNatClampNeg = 4) (by decide) hcl324
  have J329 : ∀ t, Steps p.tables e below (T324.setTop (mkF m 109 #[.val (.ref a1), .val (.ref a2), .val (.int ((3 : Int32) + (1 : Int32)))] [])) t → Steps p.tables e below (s₁.setTop (entryFrame m #[(.ref a1), (.ref a2)] 3)) t := fun t k => J325 t (by
      show Steps p.tables e below (T324.setTop (mkF m 106 #[.val (.ref a1), .val (.ref a2), .val (.int (3 : Int32))] [])) _
      refine XS.iinc X324.here hx rfl (hb hby d1_106) rfl (l' := #[.val (.ref a1), .val (.ref a2), .val (.int ((3 : Int32) + (1 : Int32)))]) rfl ?_
      exact k)
  have J330 : ∀ t, Steps p.tables e below (T324.setTop (mkF m 109 #[.val (.ref a1), .val (.ref a2), .val (.int (4 : Int32))] [])) t → Steps p.tables e below (s₁.setTop (entryFrame m #[(.ref a1), (.ref a2)] 3)) t := fun t k => J329 t (by rw [(by decide : ((3 : Int32) + (1 : Int32)) = (4 : Int32))]; exact k)
  have J331 : ∀ t, Steps p.tables e below (T324.setTop (mkF m 38 #[.val (.ref a1), .val (.ref a2), .val (.int (4 : Int32))] [(.ref a2), (.int (4 : Int32))])) t → Steps p.tables e below (s₁.setTop (entryFrame m #[(.ref a1), (.ref a2)] 3)) t := fun t k => J330 t (by
      show Steps p.tables e below (T324.setTop (mkF m 109 #[.val (.ref a1), .val (.ref a2), .val (.int (4 : Int32))] [])) _
      refine XS.goto X324.here hx rfl (pc0 := 109) (pc' := 36) rfl (hb hby d1_109) (by decide) (by decide) ?_
      show Steps p.tables e below (T324.setTop (mkF m 36 #[.val (.ref a1), .val (.ref a2), .val (.int (4 : Int32))] [])) _
      refine XS.iloadN X324.here hx rfl (hb hby d1_36) rfl ?_
      show Steps p.tables e below (T324.setTop (mkF m 37 #[.val (.ref a1), .val (.ref a2), .val (.int (4 : Int32))] [(.int (4 : Int32))])) _
      refine XS.aloadN X324.here hx rfl (hb hby d1_37) rfl rfl ?_
      exact k)
  have f332 := f321.other W324 ne58
  have J333 : ∀ t, Steps p.tables e below (T324.setTop (mkF m 112 #[.val (.ref a1), .val (.ref a2), .val (.int (4 : Int32))] [])) t → Steps p.tables e below (s₁.setTop (entryFrame m #[(.ref a1), (.ref a2)] 3)) t := fun t k => J331 t (by
      show Steps p.tables e below (T324.setTop (mkF m 38 #[.val (.ref a1), .val (.ref a2), .val (.int (4 : Int32))] [(.ref a2), (.int (4 : Int32))])) _
      refine X324.arraylength hx (cell := clh) (by rw [e324]; exact f332.1) (State.isArrayOf_alike hZ.alike f332.2.1) (g := (mkF m 38 #[.val (.ref a1), .val (.ref a2), .val (.int (4 : Int32))] [(.ref a2), (.int (4 : Int32))])) rfl (rest := [(.int (4 : Int32))]) rfl (hb hby d1_38) _ ?_
      rw [(own_size Lh)]
      show Steps p.tables e below (T324.setTop (mkF m 39 #[.val (.ref a1), .val (.ref a2), .val (.int (4 : Int32))] [(.int (Int32.ofNat 4)), (.int (4 : Int32))])) _
      refine XS.icmpYes X324.here hx rfl (pc0 := 39) (pc' := 112) rfl (hb hby d1_39) rfl (flt (by decide)).2.1 (by decide) (by decide) ?_
      exact k)
  obtain ⟨fs, hr, hrun, hended, hW, hsame⟩ := X324.leave (v := none) (fun _ => rfl)
  have f334 := f70.wr W71
  have f335 := f334.wr W93
  have f336 := f335.wr W114
  have f337 := f336.wr W135
  have f338 := f337.wr W157
  have f339 := f338.wr W177
  have f340 := f339.wr W198
  have f341 := f340.wr W220
  have f342 := f341.wr W240
  have f343 := f342.wr W261
  have f344 := f343.wr W283
  have f345 := f344.wr W303
  have f346 := f345.wr W324
  have f347 := f273.other W283 (Or.inl ne8)
  have f348 := f347.other W303 (Or.inl ne30)
  have f349 := f348.other W324 (Or.inl ne57)
  have f350 := Aw283.other W303 ne32
  have f351 := f350.other W324 ne59
  refine ⟨_, _, J333 _ ?_, hrun, hended, _, _, rfl, ?_, ⟨_, rfl⟩, hW, hsame.mono (by decide) (by decide)⟩
  · show Steps p.tables e below (T324.setTop (mkF m 112 #[.val (.ref a1), .val (.ref a2), .val (.int (4 : Int32))] [])) _
    exact X324.returnOut hx Bd.returns (hb hby d1_112) hr
  · show Q1 Z a1 a2 clh u1 u2 u3 x0 x1 x2 x3 h0 n0 _ T324.heap _
    rw [e324]
    exact ⟨b6, cl283, rfl, N328, KK327, f346, f349, f351, (own_LAeq L283 (fun j hj => match j, hj with | 0, _ => rfl | 1, _ => rfl | 2, _ => rfl | 3, _ => rfl | 4, _ => rfl | j + 5, hj => absurd hj (by omega)))⟩
theorem pd_0 : parseMethodDescriptor "([J)V" = some ⟨[(.array .long)], none⟩ := by decide +kernel
theorem pd_1 : parseMethodDescriptor "(JIII)J" = some ⟨[.long, .int, .int, .int], some .long⟩ := by decide +kernel
theorem pd_2 : parseMethodDescriptor "(II)J" = some ⟨[.int, .int], some .long⟩ := by decide +kernel
theorem pn_0 : plainName "com/example/quantiscope/quantiscope/threshold/BinsCountPinLaw" = true := by first | (simp [plainName, overriddenIn]; done) | decide +kernel
theorem ef_0_xxxxxx (m : MethodId) (x0 : Int64) (x1 : Int64) (x2 : Int64) (x3 : Int64) (x4 : Int32) (x5 : Int32) : entryFrame m #[(.long x0), (.long x1), (.long x2), (.long x3), (.int x4), (.int x5)] maxLocals = mkF m 0 #[.val (.long x0), .second, .val (.long x1), .second, .val (.long x2), .second, .val (.long x3), .second, .val (.int x4), .val (.int x5), .unset, .unset, .unset, .unset, .unset, .unset] [] := by first | (simp [entryFrame, mkF, argsToLocals, Value.category, maxLocals]; done) | rfl
def Q0 (Z : State) (x0 : Int64) (x1 : Int64) (x2 : Int64) (x3 : Int64) (p4 : Int32) (p5 : Int32) (h0 : Heap) (n0 : Nat) (v : Option Value) (h : Heap) (L : List Loc) : Prop := v = some (.int (1 : Int32)) ∧ Fr n0 L
set_option maxRecDepth 65536 in
set_option maxHeartbeats 40000000 in
theorem rm0 (l : Launch) (Z : State) (a0 : Array Value) (hw : ∀ d ∈ tables_1, d.before a0 Z = true) (ws : List Jvm.Cond) (x0 : Int64) (x1 : Int64) (x2 : Int64) (x3 : Int64) (p4 : Int32) (p5 : Int32) (h0 : Heap) (n0 : Nat) (Z0 : n0 ≤ h0.size) :
    MetFree l x (head1 (Jvm.Cond.code x code maxLocals ret :: ws) room_1) (fun a U => a = #[(.long x0), (.long x1), (.long x2), (.long x3), (.int p4), (.int p5)] ∧ Z.Warmed39 U.vm ∧ U.heap = h0) (fun _ _ _ _ _ => True) (fun _ U o U' => ∃ v L, o = .returned v ∧ Q0 Z x0 x1 x2 x3 p4 p5 h0 n0 v U'.heap L ∧ FrameEnd U o U' L room_1.cells room_1.slots) := by
  refine MetFree.of_bodySF (plainFor_of_name pn_0) hisR ?_
  intro p e s m args below meth c s₁ Bd hml0 hP hK
  obtain ⟨rfl, hZ, hh⟩ := hP
  have hx := Bd.exec
  have hby := Bd.bytes
  have hml : c.maxLocals = 16 := hml0
  have hown : s.vm.findClass "com/example/quantiscope/quantiscope/threshold/BinsCountPinLaw" = some m.cls := findClass_of_methodNamed Bd.named
  have hnm := (name_of_methodNamed Bd.named Bd.method).1
  have X0 : Stand p l e room_1 s m #[(.long x0), (.long x1), (.long x2), (.long x3), (.int p4), (.int p5)] below meth c s₁ [] 0 0 := Stand.of_body Bd
  have e0 : s₁.heap = h0 := by rw [← hh, Bd.state]; rfl
  have N0 := Fr.nil n0
  have pre0 : ∀ t, Steps p.tables e below (s₁.setTop (mkF m 0 #[.val (.long x0), .second, .val (.long x1), .second, .val (.long x2), .second, .val (.long x3), .second, .val (.int p4), .val (.int p5), .unset, .unset, .unset, .unset, .unset, .unset] [])) t → Steps p.tables e below (s₁.setTop (entryFrame m #[(.long x0), (.long x1), (.long x2), (.long x3), (.int p4), (.int p5)] maxLocals)) t := fun t k => castTop (ef_0_xxxxxx m x0 x1 x2 x3 p4 p5) k
  have J1 : ∀ t, Steps p.tables e below (s₁.setTop (mkF m 6 #[.val (.long x0), .second, .val (.long x1), .second, .val (.long x2), .second, .val (.long x3), .second, .val (.int p4), .val (.int p5), .val (.int (p4 &&& (3 : Int32))), .unset, .unset, .unset, .unset, .unset] [])) t → Steps p.tables e below (s₁.setTop (entryFrame m #[(.long x0), (.long x1), (.long x2), (.long x3), (.int p4), (.int p5)] maxLocals)) t := fun t k => pre0 t (by
      show Steps p.tables e below (s₁.setTop (mkF m 0 #[.val (.long x0), .second, .val (.long x1), .second, .val (.long x2), .second, .val (.long x3), .second, .val (.int p4), .val (.int p5), .unset, .unset, .unset, .unset, .unset, .unset] [])) _
      refine XS.iload X0.here hx rfl (hb hby at_0) rfl ?_
      show Steps p.tables e below (s₁.setTop (mkF m 2 #[.val (.long x0), .second, .val (.long x1), .second, .val (.long x2), .second, .val (.long x3), .second, .val (.int p4), .val (.int p5), .unset, .unset, .unset, .unset, .unset, .unset] [(.int p4)])) _
      refine XS.iconst X0.here hx rfl (hb hby at_2) ?_
      show Steps p.tables e below (s₁.setTop (mkF m 3 #[.val (.long x0), .second, .val (.long x1), .second, .val (.long x2), .second, .val (.long x3), .second, .val (.int p4), .val (.int p5), .unset, .unset, .unset, .unset, .unset, .unset] [(.int (3 : Int32)), (.int p4)])) _
      refine XS.iand X0.here hx rfl (hb hby at_3) rfl ?_
      show Steps p.tables e below (s₁.setTop (mkF m 4 #[.val (.long x0), .second, .val (.long x1), .second, .val (.long x2), .second, .val (.long x3), .second, .val (.int p4), .val (.int p5), .unset, .unset, .unset, .unset, .unset, .unset] [(.int (p4 &&& (3 : Int32)))])) _
      refine XS.istore X0.here hx rfl (hb hby at_4) rfl (l' := #[.val (.long x0), .second, .val (.long x1), .second, .val (.long x2), .second, .val (.long x3), .second, .val (.int p4), .val (.int p5), .val (.int (p4 &&& (3 : Int32))), .unset, .unset, .unset, .unset, .unset]) rfl ?_
      exact k)
  obtain ⟨a, ha⟩ : ∃ z : Int32, z = (p4 &&& (3 : Int32)) := ⟨_, rfl⟩
  have J2 : ∀ t, Steps p.tables e below (s₁.setTop (mkF m 6 #[.val (.long x0), .second, .val (.long x1), .second, .val (.long x2), .second, .val (.long x3), .second, .val (.int p4), .val (.int p5), .val (.int a), .unset, .unset, .unset, .unset, .unset] [])) t → Steps p.tables e below (s₁.setTop (entryFrame m #[(.long x0), (.long x1), (.long x2), (.long x3), (.int p4), (.int p5)] maxLocals)) t := fun t k => J1 t (by subst ha; exact k)
  obtain ⟨A, hA, rfl⟩ := own_mask p4 a ha
  have J3 : ∀ t, Steps p.tables e below (s₁.setTop (mkF m 12 #[.val (.long x0), .second, .val (.long x1), .second, .val (.long x2), .second, .val (.long x3), .second, .val (.int p4), .val (.int p5), .val (.int (Int32.ofNat A)), .val (.int (p5 &&& (3 : Int32))), .unset, .unset, .unset, .unset] [])) t → Steps p.tables e below (s₁.setTop (entryFrame m #[(.long x0), (.long x1), (.long x2), (.long x3), (.int p4), (.int p5)] maxLocals)) t := fun t k => J2 t (by
      show Steps p.tables e below (s₁.setTop (mkF m 6 #[.val (.long x0), .second, .val (.long x1), .second, .val (.long x2), .second, .val (.long x3), .second, .val (.int p4), .val (.int p5), .val (.int (Int32.ofNat A)), .unset, .unset, .unset, .unset, .unset] [])) _
      refine XS.iload X0.here hx rfl (hb hby at_6) rfl ?_
      show Steps p.tables e below (s₁.setTop (mkF m 8 #[.val (.long x0), .second, .val (.long x1), .second, .val (.long x2), .second, .val (.long x3), .second, .val (.int p4), .val (.int p5), .val (.int (Int32.ofNat A)), .unset, .unset, .unset, .unset, .unset] [(.int p5)])) _
      refine XS.iconst X0.here hx rfl (hb hby at_8) ?_
      show Steps p.tables e below (s₁.setTop (mkF m 9 #[.val (.long x0), .second, .val (.long x1), .second, .val (.long x2), .second, .val (.long x3), .second, .val (.int p4), .val (.int p5), .val (.int (Int32.ofNat A)), .unset, .unset, .unset, .unset, .unset] [(.int (3 : Int32)), (.int p5)])) _
      refine XS.iand X0.here hx rfl (hb hby at_9) rfl ?_
      show Steps p.tables e below (s₁.setTop (mkF m 10 #[.val (.long x0), .second, .val (.long x1), .second, .val (.long x2), .second, .val (.long x3), .second, .val (.int p4), .val (.int p5), .val (.int (Int32.ofNat A)), .unset, .unset, .unset, .unset, .unset] [(.int (p5 &&& (3 : Int32)))])) _
      refine XS.istore X0.here hx rfl (hb hby at_10) rfl (l' := #[.val (.long x0), .second, .val (.long x1), .second, .val (.long x2), .second, .val (.long x3), .second, .val (.int p4), .val (.int p5), .val (.int (Int32.ofNat A)), .val (.int (p5 &&& (3 : Int32))), .unset, .unset, .unset, .unset]) rfl ?_
      exact k)
  obtain ⟨bq, hbq⟩ : ∃ z : Int32, z = (p5 &&& (3 : Int32)) := ⟨_, rfl⟩
  have J4 : ∀ t, Steps p.tables e below (s₁.setTop (mkF m 12 #[.val (.long x0), .second, .val (.long x1), .second, .val (.long x2), .second, .val (.long x3), .second, .val (.int p4), .val (.int p5), .val (.int (Int32.ofNat A)), .val (.int bq), .unset, .unset, .unset, .unset] [])) t → Steps p.tables e below (s₁.setTop (entryFrame m #[(.long x0), (.long x1), (.long x2), (.long x3), (.int p4), (.int p5)] maxLocals)) t := fun t k => J3 t (by subst hbq; exact k)
  obtain ⟨B, hB, rfl⟩ := own_mask p5 bq hbq
  have J5 : ∀ t, Steps p.tables e below (s₁.setTop (mkF m 13 #[.val (.long x0), .second, .val (.long x1), .second, .val (.long x2), .second, .val (.long x3), .second, .val (.int p4), .val (.int p5), .val (.int (Int32.ofNat A)), .val (.int (Int32.ofNat B)), .unset, .unset, .unset, .unset] [(.int (4 : Int32))])) t → Steps p.tables e below (s₁.setTop (entryFrame m #[(.long x0), (.long x1), (.long x2), (.long x3), (.int p4), (.int p5)] maxLocals)) t := fun t k => J4 t (by
      show Steps p.tables e below (s₁.setTop (mkF m 12 #[.val (.long x0), .second, .val (.long x1), .second, .val (.long x2), .second, .val (.long x3), .second, .val (.int p4), .val (.int p5), .val (.int (Int32.ofNat A)), .val (.int (Int32.ofNat B)), .unset, .unset, .unset, .unset] [])) _
      refine XS.iconst X0.here hx rfl (hb hby at_12) ?_
      exact k)
  obtain ⟨T6, h6, k6, X6, e6, E6, A6, st6⟩ := newP X0 hx hZ (hw _ (List.mem_of_getElem? (i := 0) rfl)) e0 (g := (mkF m 13 #[.val (.long x0), .second, .val (.long x1), .second, .val (.long x2), .second, .val (.long x3), .second, .val (.int p4), .val (.int p5), .val (.int (Int32.ofNat A)), .val (.int (Int32.ofNat B)), .unset, .unset, .unset, .unset] [(.int (4 : Int32))])) rfl (hb hby at_13) rfl (by decide) (cap := 4) (by decide) (by decide) (by decide) (by decide)
  obtain ⟨b6, g6⟩ : ∃ z, z = h0.size := ⟨_, rfl⟩
  rw [← g6] at A6 st6
  obtain ⟨cl6, hcl6⟩ : ∃ z, z = newA k6 .long (4 : Int32) := ⟨_, rfl⟩
  have Aw6 : Arr Z h6 b6 cl6 .long := by rw [hcl6]; exact A6
  have J7 : ∀ t, Steps p.tables e below (T6.setTop (mkF m 15 #[.val (.long x0), .second, .val (.long x1), .second, .val (.long x2), .second, .val (.long x3), .second, .val (.int p4), .val (.int p5), .val (.int (Int32.ofNat A)), .val (.int (Int32.ofNat B)), .unset, .unset, .unset, .unset] [(.ref b6)])) t → Steps p.tables e below (s₁.setTop (entryFrame m #[(.long x0), (.long x1), (.long x2), (.long x3), (.int p4), (.int p5)] maxLocals)) t := fun t k => J5 t (st6 t k)
  have ge8 : n0 ≤ b6 := Nat.le_trans Z0 (Nat.le_of_eq g6.symm)
  have Z9 : n0 ≤ h6.size := Nat.le_trans Z0 E6.1
  have L6 := own_LA0 (N := 4) (by decide) hcl6
  have J10 : ∀ t, Steps p.tables e below (T6.setTop (mkF m 21 #[.val (.long x0), .second, .val (.long x1), .second, .val (.long x2), .second, .val (.long x3), .second, .val (.int p4), .val (.int p5), .val (.int (Int32.ofNat A)), .val (.int (Int32.ofNat B)), .val (.ref b6), .unset, .unset, .unset] [(.long x0), (.int (0 : Int32)), (.ref b6)])) t → Steps p.tables e below (s₁.setTop (entryFrame m #[(.long x0), (.long x1), (.long x2), (.long x3), (.int p4), (.int p5)] maxLocals)) t := fun t k => J7 t (by
      show Steps p.tables e below (T6.setTop (mkF m 15 #[.val (.long x0), .second, .val (.long x1), .second, .val (.long x2), .second, .val (.long x3), .second, .val (.int p4), .val (.int p5), .val (.int (Int32.ofNat A)), .val (.int (Int32.ofNat B)), .unset, .unset, .unset, .unset] [(.ref b6)])) _
      refine XS.astore X6.here hx rfl (hb hby at_15) rfl rfl (l' := #[.val (.long x0), .second, .val (.long x1), .second, .val (.long x2), .second, .val (.long x3), .second, .val (.int p4), .val (.int p5), .val (.int (Int32.ofNat A)), .val (.int (Int32.ofNat B)), .val (.ref b6), .unset, .unset, .unset]) rfl ?_
      show Steps p.tables e below (T6.setTop (mkF m 17 #[.val (.long x0), .second, .val (.long x1), .second, .val (.long x2), .second, .val (.long x3), .second, .val (.int p4), .val (.int p5), .val (.int (Int32.ofNat A)), .val (.int (Int32.ofNat B)), .val (.ref b6), .unset, .unset, .unset] [])) _
      refine XS.aload X6.here hx rfl (hb hby at_17) rfl rfl ?_
      show Steps p.tables e below (T6.setTop (mkF m 19 #[.val (.long x0), .second, .val (.long x1), .second, .val (.long x2), .second, .val (.long x3), .second, .val (.int p4), .val (.int p5), .val (.int (Int32.ofNat A)), .val (.int (Int32.ofNat B)), .val (.ref b6), .unset, .unset, .unset] [(.ref b6)])) _
      refine XS.iconst X6.here hx rfl (hb hby at_19) ?_
      show Steps p.tables e below (T6.setTop (mkF m 20 #[.val (.long x0), .second, .val (.long x1), .second, .val (.long x2), .second, .val (.long x3), .second, .val (.int p4), .val (.int p5), .val (.int (Int32.ofNat A)), .val (.int (Int32.ofNat B)), .val (.ref b6), .unset, .unset, .unset] [(.int (0 : Int32)), (.ref b6)])) _
      refine XS.lloadN X6.here hx rfl (hb hby at_20) rfl ?_
      exact k)
  obtain ⟨T11, h11, X11, e11, W11, st11⟩ := stJ X6 hx hZ e6 Aw6 (j := (0 : Int32)) (own_inb L6 (by decide) (by decide : (0 : Int32).toNatClampNeg = 0) (by decide)) (g := (mkF m 21 #[.val (.long x0), .second, .val (.long x1), .second, .val (.long x2), .second, .val (.long x3), .second, .val (.int p4), .val (.int p5), .val (.int (Int32.ofNat A)), .val (.int (Int32.ofNat B)), .val (.ref b6), .unset, .unset, .unset] [(.long x0), (.int (0 : Int32)), (.ref b6)])) rfl rfl (hb hby at_21)
  have J12 : ∀ t, Steps p.tables e below (T11.setTop (mkF m 22 #[.val (.long x0), .second, .val (.long x1), .second, .val (.long x2), .second, .val (.long x3), .second, .val (.int p4), .val (.int p5), .val (.int (Int32.ofNat A)), .val (.int (Int32.ofNat B)), .val (.ref b6), .unset, .unset, .unset] [])) t → Steps p.tables e below (s₁.setTop (entryFrame m #[(.long x0), (.long x1), (.long x2), (.long x3), (.int p4), (.int p5)] maxLocals)) t := fun t k => J10 t (st11 t k)
  have Z13 : n0 ≤ h11.size := Nat.le_trans Z9 (Keep.of_wr W11).1
  have N14 := Fr.snoc X11 N0 ge8
  obtain ⟨cl11, hcl11⟩ : ∃ z, z = cl6.setSlot ((0 : Int32)).toNatClampNeg (.long x0) := ⟨_, rfl⟩
  have Aw11 : Arr Z h11 b6 cl11 .long := by rw [hcl11]; exact Aw6.same W11
  have L11 := own_LAset L6 (by decide : (0 : Int32).toNatClampNeg = 0) (by decide) hcl11
  have J15 : ∀ t, Steps p.tables e below (T11.setTop (mkF m 26 #[.val (.long x0), .second, .val (.long x1), .second, .val (.long x2), .second, .val (.long x3), .second, .val (.int p4), .val (.int p5), .val (.int (Int32.ofNat A)), .val (.int (Int32.ofNat B)), .val (.ref b6), .unset, .unset, .unset] [(.long x1), (.int (1 : Int32)), (.ref b6)])) t → Steps p.tables e below (s₁.setTop (entryFrame m #[(.long x0), (.long x1), (.long x2), (.long x3), (.int p4), (.int p5)] maxLocals)) t := fun t k => J12 t (by
      show Steps p.tables e below (T11.setTop (mkF m 22 #[.val (.long x0), .second, .val (.long x1), .second, .val (.long x2), .second, .val (.long x3), .second, .val (.int p4), .val (.int p5), .val (.int (Int32.ofNat A)), .val (.int (Int32.ofNat B)), .val (.ref b6), .unset, .unset, .unset] [])) _
      refine XS.aload X11.here hx rfl (hb hby at_22) rfl rfl ?_
      show Steps p.tables e below (T11.setTop (mkF m 24 #[.val (.long x0), .second, .val (.long x1), .second, .val (.long x2), .second, .val (.long x3), .second, .val (.int p4), .val (.int p5), .val (.int (Int32.ofNat A)), .val (.int (Int32.ofNat B)), .val (.ref b6), .unset, .unset, .unset] [(.ref b6)])) _
      refine XS.iconst X11.here hx rfl (hb hby at_24) ?_
      show Steps p.tables e below (T11.setTop (mkF m 25 #[.val (.long x0), .second, .val (.long x1), .second, .val (.long x2), .second, .val (.long x3), .second, .val (.int p4), .val (.int p5), .val (.int (Int32.ofNat A)), .val (.int (Int32.ofNat B)), .val (.ref b6), .unset, .unset, .unset] [(.int (1 : Int32)), (.ref b6)])) _
      refine XS.lloadN X11.here hx rfl (hb hby at_25) rfl ?_
      exact k)
  obtain ⟨T16, h16, X16, e16, W16, st16⟩ := stJ X11 hx hZ e11 Aw11 (j := (1 : Int32)) (own_inb L11 (by decide) (by decide : (1 : Int32).toNatClampNeg = 1) (by decide)) (g := (mkF m 26 #[.val (.long x0), .second, .val (.long x1), .second, .val (.long x2), .second, .val (.long x3), .second, .val (.int p4), .val (.int p5), .val (.int (Int32.ofNat A)), .val (.int (Int32.ofNat B)), .val (.ref b6), .unset, .unset, .unset] [(.long x1), (.int (1 : Int32)), (.ref b6)])) rfl rfl (hb hby at_26)
  have J17 : ∀ t, Steps p.tables e below (T16.setTop (mkF m 27 #[.val (.long x0), .second, .val (.long x1), .second, .val (.long x2), .second, .val (.long x3), .second, .val (.int p4), .val (.int p5), .val (.int (Int32.ofNat A)), .val (.int (Int32.ofNat B)), .val (.ref b6), .unset, .unset, .unset] [])) t → Steps p.tables e below (s₁.setTop (entryFrame m #[(.long x0), (.long x1), (.long x2), (.long x3), (.int p4), (.int p5)] maxLocals)) t := fun t k => J15 t (st16 t k)
  have Z18 : n0 ≤ h16.size := Nat.le_trans Z13 (Keep.of_wr W16).1
  have N19 := Fr.snoc X16 N14 ge8
  obtain ⟨cl16, hcl16⟩ : ∃ z, z = cl11.setSlot ((1 : Int32)).toNatClampNeg (.long x1) := ⟨_, rfl⟩
  have Aw16 : Arr Z h16 b6 cl16 .long := by rw [hcl16]; exact Aw11.same W16
  have L16 := own_LAset L11 (by decide : (1 : Int32).toNatClampNeg = 1) (by decide) hcl16
  have J20 : ∀ t, Steps p.tables e below (T16.setTop (mkF m 32 #[.val (.long x0), .second, .val (.long x1), .second, .val (.long x2), .second, .val (.long x3), .second, .val (.int p4), .val (.int p5), .val (.int (Int32.ofNat A)), .val (.int (Int32.ofNat B)), .val (.ref b6), .unset, .unset, .unset] [(.long x2), (.int (2 : Int32)), (.ref b6)])) t → Steps p.tables e below (s₁.setTop (entryFrame m #[(.long x0), (.long x1), (.long x2), (.long x3), (.int p4), (.int p5)] maxLocals)) t := fun t k => J17 t (by
      show Steps p.tables e below (T16.setTop (mkF m 27 #[.val (.long x0), .second, .val (.long x1), .second, .val (.long x2), .second, .val (.long x3), .second, .val (.int p4), .val (.int p5), .val (.int (Int32.ofNat A)), .val (.int (Int32.ofNat B)), .val (.ref b6), .unset, .unset, .unset] [])) _
      refine XS.aload X16.here hx rfl (hb hby at_27) rfl rfl ?_
      show Steps p.tables e below (T16.setTop (mkF m 29 #[.val (.long x0), .second, .val (.long x1), .second, .val (.long x2), .second, .val (.long x3), .second, .val (.int p4), .val (.int p5), .val (.int (Int32.ofNat A)), .val (.int (Int32.ofNat B)), .val (.ref b6), .unset, .unset, .unset] [(.ref b6)])) _
      refine XS.iconst X16.here hx rfl (hb hby at_29) ?_
      show Steps p.tables e below (T16.setTop (mkF m 30 #[.val (.long x0), .second, .val (.long x1), .second, .val (.long x2), .second, .val (.long x3), .second, .val (.int p4), .val (.int p5), .val (.int (Int32.ofNat A)), .val (.int (Int32.ofNat B)), .val (.ref b6), .unset, .unset, .unset] [(.int (2 : Int32)), (.ref b6)])) _
      refine XS.lload X16.here hx rfl (hb hby at_30) rfl ?_
      exact k)
  obtain ⟨T21, h21, X21, e21, W21, st21⟩ := stJ X16 hx hZ e16 Aw16 (j := (2 : Int32)) (own_inb L16 (by decide) (by decide : (2 : Int32).toNatClampNeg = 2) (by decide)) (g := (mkF m 32 #[.val (.long x0), .second, .val (.long x1), .second, .val (.long x2), .second, .val (.long x3), .second, .val (.int p4), .val (.int p5), .val (.int (Int32.ofNat A)), .val (.int (Int32.ofNat B)), .val (.ref b6), .unset, .unset, .unset] [(.long x2), (.int (2 : Int32)), (.ref b6)])) rfl rfl (hb hby at_32)
  have J22 : ∀ t, Steps p.tables e below (T21.setTop (mkF m 33 #[.val (.long x0), .second, .val (.long x1), .second, .val (.long x2), .second, .val (.long x3), .second, .val (.int p4), .val (.int p5), .val (.int (Int32.ofNat A)), .val (.int (Int32.ofNat B)), .val (.ref b6), .unset, .unset, .unset] [])) t → Steps p.tables e below (s₁.setTop (entryFrame m #[(.long x0), (.long x1), (.long x2), (.long x3), (.int p4), (.int p5)] maxLocals)) t := fun t k => J20 t (st21 t k)
  have Z23 : n0 ≤ h21.size := Nat.le_trans Z18 (Keep.of_wr W21).1
  have N24 := Fr.snoc X21 N19 ge8
  obtain ⟨cl21, hcl21⟩ : ∃ z, z = cl16.setSlot ((2 : Int32)).toNatClampNeg (.long x2) := ⟨_, rfl⟩
  have Aw21 : Arr Z h21 b6 cl21 .long := by rw [hcl21]; exact Aw16.same W21
  have L21 := own_LAset L16 (by decide : (2 : Int32).toNatClampNeg = 2) (by decide) hcl21
  have J25 : ∀ t, Steps p.tables e below (T21.setTop (mkF m 38 #[.val (.long x0), .second, .val (.long x1), .second, .val (.long x2), .second, .val (.long x3), .second, .val (.int p4), .val (.int p5), .val (.int (Int32.ofNat A)), .val (.int (Int32.ofNat B)), .val (.ref b6), .unset, .unset, .unset] [(.long x3), (.int (3 : Int32)), (.ref b6)])) t → Steps p.tables e below (s₁.setTop (entryFrame m #[(.long x0), (.long x1), (.long x2), (.long x3), (.int p4), (.int p5)] maxLocals)) t := fun t k => J22 t (by
      show Steps p.tables e below (T21.setTop (mkF m 33 #[.val (.long x0), .second, .val (.long x1), .second, .val (.long x2), .second, .val (.long x3), .second, .val (.int p4), .val (.int p5), .val (.int (Int32.ofNat A)), .val (.int (Int32.ofNat B)), .val (.ref b6), .unset, .unset, .unset] [])) _
      refine XS.aload X21.here hx rfl (hb hby at_33) rfl rfl ?_
      show Steps p.tables e below (T21.setTop (mkF m 35 #[.val (.long x0), .second, .val (.long x1), .second, .val (.long x2), .second, .val (.long x3), .second, .val (.int p4), .val (.int p5), .val (.int (Int32.ofNat A)), .val (.int (Int32.ofNat B)), .val (.ref b6), .unset, .unset, .unset] [(.ref b6)])) _
      refine XS.iconst X21.here hx rfl (hb hby at_35) ?_
      show Steps p.tables e below (T21.setTop (mkF m 36 #[.val (.long x0), .second, .val (.long x1), .second, .val (.long x2), .second, .val (.long x3), .second, .val (.int p4), .val (.int p5), .val (.int (Int32.ofNat A)), .val (.int (Int32.ofNat B)), .val (.ref b6), .unset, .unset, .unset] [(.int (3 : Int32)), (.ref b6)])) _
      refine XS.lload X21.here hx rfl (hb hby at_36) rfl ?_
      exact k)
  obtain ⟨T26, h26, X26, e26, W26, st26⟩ := stJ X21 hx hZ e21 Aw21 (j := (3 : Int32)) (own_inb L21 (by decide) (by decide : (3 : Int32).toNatClampNeg = 3) (by decide)) (g := (mkF m 38 #[.val (.long x0), .second, .val (.long x1), .second, .val (.long x2), .second, .val (.long x3), .second, .val (.int p4), .val (.int p5), .val (.int (Int32.ofNat A)), .val (.int (Int32.ofNat B)), .val (.ref b6), .unset, .unset, .unset] [(.long x3), (.int (3 : Int32)), (.ref b6)])) rfl rfl (hb hby at_38)
  have J27 : ∀ t, Steps p.tables e below (T26.setTop (mkF m 39 #[.val (.long x0), .second, .val (.long x1), .second, .val (.long x2), .second, .val (.long x3), .second, .val (.int p4), .val (.int p5), .val (.int (Int32.ofNat A)), .val (.int (Int32.ofNat B)), .val (.ref b6), .unset, .unset, .unset] [])) t → Steps p.tables e below (s₁.setTop (entryFrame m #[(.long x0), (.long x1), (.long x2), (.long x3), (.int p4), (.int p5)] maxLocals)) t := fun t k => J25 t (st26 t k)
  have Z28 : n0 ≤ h26.size := Nat.le_trans Z23 (Keep.of_wr W26).1
  have N29 := Fr.snoc X26 N24 ge8
  obtain ⟨cl26, hcl26⟩ : ∃ z, z = cl21.setSlot ((3 : Int32)).toNatClampNeg (.long x3) := ⟨_, rfl⟩
  have Aw26 : Arr Z h26 b6 cl26 .long := by rw [hcl26]; exact Aw21.same W26
  have L26 := own_LAset L21 (by decide : (3 : Int32).toNatClampNeg = 3) (by decide) hcl26
  have Lh : own_LA cl26 4 (own_h x0 x1 x2 x3) := own_LAeq L26 (fun j hj => match j, hj with | 0, _ => rfl | 1, _ => rfl | 2, _ => rfl | 3, _ => rfl | j + 4, hj => absurd hj (by omega))
  obtain ⟨T30, h30, X30, e30, E30, A30, D30, -, st30⟩ := newO X26 hx hZ hown (hw _ (List.mem_of_getElem? (i := 1) rfl)) (hw _ (List.mem_of_getElem? (i := 2) rfl)) (hw _ (List.mem_of_getElem? (i := 3) rfl)) e26 (g := (mkF m 39 #[.val (.long x0), .second, .val (.long x1), .second, .val (.long x2), .second, .val (.long x3), .second, .val (.int p4), .val (.int p5), .val (.int (Int32.ofNat A)), .val (.int (Int32.ofNat B)), .val (.ref b6), .unset, .unset, .unset] [])) rfl (hb hby at_39) (by decide) (by decide)
  obtain ⟨b30, g30⟩ : ∃ z, z = h26.size := ⟨_, rfl⟩
  rw [← g30] at A30 D30 st30
  have J31 : ∀ t, Steps p.tables e below (T30.setTop (mkF m 42 #[.val (.long x0), .second, .val (.long x1), .second, .val (.long x2), .second, .val (.long x3), .second, .val (.int p4), .val (.int p5), .val (.int (Int32.ofNat A)), .val (.int (Int32.ofNat B)), .val (.ref b6), .unset, .unset, .unset] [(.ref b30)])) t → Steps p.tables e below (s₁.setTop (entryFrame m #[(.long x0), (.long x1), (.long x2), (.long x3), (.int p4), (.int p5)] maxLocals)) t := fun t k => J27 t (st30 t k)
  have ne32 : b6 ≠ b30 := Nat.ne_of_lt (Nat.lt_of_lt_of_le Aw26.lt (Nat.le_of_eq g30.symm))
  have ge33 : n0 ≤ b30 := Nat.le_trans Z28 (Nat.le_of_eq g30.symm)
  have Z34 : n0 ≤ h30.size := Nat.le_trans Z28 E30.1
  have F30_counts : Fld Z h30 b30 "com/example/quantiscope/quantiscope/threshold/Bins" "counts" "[J" .null := D30 (Or.inr (hw _ (List.mem_of_getElem? (i := 11) rfl))) (ty := (.array .long)) (by decide)
  have F30_sums : Fld Z h30 b30 "com/example/quantiscope/quantiscope/threshold/Bins" "sums" "[J" .null := D30 (Or.inr (hw _ (List.mem_of_getElem? (i := 13) rfl))) (ty := (.array .long)) (by decide)
  have F30_squares : Fld Z h30 b30 "com/example/quantiscope/quantiscope/threshold/Bins" "squares" "[D" .null := D30 (Or.inr (hw _ (List.mem_of_getElem? (i := 16) rfl))) (ty := (.array .double)) (by decide)
  have J35 : ∀ t, Steps p.tables e below (T30.setTop (mkF m 45 #[.val (.long x0), .second, .val (.long x1), .second, .val (.long x2), .second, .val (.long x3), .second, .val (.int p4), .val (.int p5), .val (.int (Int32.ofNat A)), .val (.int (Int32.ofNat B)), .val (.ref b6), .unset, .unset, .unset] [(.ref b6), (.ref b30), (.ref b30)])) t → Steps p.tables e below (s₁.setTop (entryFrame m #[(.long x0), (.long x1), (.long x2), (.long x3), (.int p4), (.int p5)] maxLocals)) t := fun t k => J31 t (by
      show Steps p.tables e below (T30.setTop (mkF m 42 #[.val (.long x0), .second, .val (.long x1), .second, .val (.long x2), .second, .val (.long x3), .second, .val (.int p4), .val (.int p5), .val (.int (Int32.ofNat A)), .val (.int (Int32.ofNat B)), .val (.ref b6), .unset, .unset, .unset] [(.ref b30)])) _
      refine XS.dup X30.here hx rfl (hb hby at_42) rfl rfl ?_
      show Steps p.tables e below (T30.setTop (mkF m 43 #[.val (.long x0), .second, .val (.long x1), .second, .val (.long x2), .second, .val (.long x3), .second, .val (.int p4), .val (.int p5), .val (.int (Int32.ofNat A)), .val (.int (Int32.ofNat B)), .val (.ref b6), .unset, .unset, .unset] [(.ref b30), (.ref b30)])) _
      refine XS.aload X30.here hx rfl (hb hby at_43) rfl rfl ?_
      exact k)
  have f36 := Aw26.ext E30
  obtain ⟨_, _, ⟨T37, L37, k37, n37⟩, -, X37, ⟨Lc37, hQ37, l37, y37, z37⟩, st37⟩ := X30.specialBack hx (y := (⟨"com/example/quantiscope/quantiscope/threshold/Bins", "<init>", "([J)V"⟩ : MethodName)) rfl hown (mvT hZ (hw _ (List.mem_of_getElem? (i := 4) rfl))) (mvT hZ (hw _ (List.mem_of_getElem? (i := 5) rfl))) (mvT hZ (hw _ (List.mem_of_getElem? (i := 6) rfl))) (by decide) (backOf (W := 1) (rm1 l Z a0 hw [] b30 b6 cl26 .null .null .null x0 x1 x2 x3 h30 n0 Z34 A30 ge33 ne32 F30_counts F30_sums F30_squares f36 Lh) hZ (hw _ (List.mem_of_getElem? (i := 6) rfl)) (hw _ (List.mem_of_getElem? (i := 3) rfl)) (by decide) (by decide)) (g := (mkF m 45 #[.val (.long x0), .second, .val (.long x1), .second, .val (.long x2), .second, .val (.long x3), .second, .val (.int p4), .val (.int p5), .val (.int (Int32.ofNat A)), .val (.int (Int32.ofNat B)), .val (.ref b6), .unset, .unset, .unset] [(.ref b6), (.ref b30), (.ref b30)])) rfl (by rw [hml]; rfl) (Steps.refl _) (a := b30) (argsL := [(.ref b6)]) (rest := [(.ref b30)]) (lenOf pd_0 rfl) rfl (by show 2 * 0 + _ ≤ _; exact Nat.le_of_eq rfl) (hb hby at_45) (fun _ _ => ⟨rfl, e30, (by decide : 2 + 3 ≤ _), (by decide : 7 + 15 ≤ _)⟩)
  dsimp only [Pt.U, Pt.locs, Pt.cells, Pt.slots] at X37 l37 y37 z37 st37 hQ37
  subst l37 y37 z37
  obtain ⟨b1_37, cl1_37, rfl, Nq37, K37, p37_1, p37_2, p37_3, p37_4⟩ := hQ37
  have N38 := Fr.app N29 Nq37
  have J39 : ∀ t, Steps p.tables e below (T37.setTop (mkF m 48 #[.val (.long x0), .second, .val (.long x1), .second, .val (.long x2), .second, .val (.long x3), .second, .val (.int p4), .val (.int p5), .val (.int (Int32.ofNat A)), .val (.int (Int32.ofNat B)), .val (.ref b6), .unset, .unset, .unset] [(.ref b30)])) t → Steps p.tables e below (s₁.setTop (entryFrame m #[(.long x0), (.long x1), (.long x2), (.long x3), (.int p4), (.int p5)] maxLocals)) t := fun t k => J35 t (st37.trans k)
  have Z40 : n0 ≤ T37.heap.size := Nat.le_trans Z34 K37.1
  have J41 : ∀ t, Steps p.tables e below (T37.setTop (mkF m 56 #[.val (.long x0), .second, .val (.long x1), .second, .val (.long x2), .second, .val (.long x3), .second, .val (.int p4), .val (.int p5), .val (.int (Int32.ofNat A)), .val (.int (Int32.ofNat B)), .val (.ref b6), .val (.ref b30), .unset, .unset] [(.int (Int32.ofNat B)), (.int (Int32.ofNat A)), (.int (0 : Int32)), (.long x0)])) t → Steps p.tables e below (s₁.setTop (entryFrame m #[(.long x0), (.long x1), (.long x2), (.long x3), (.int p4), (.int p5)] maxLocals)) t := fun t k => J39 t (by
      show Steps p.tables e below (T37.setTop (mkF m 48 #[.val (.long x0), .second, .val (.long x1), .second, .val (.long x2), .second, .val (.long x3), .second, .val (.int p4), .val (.int p5), .val (.int (Int32.ofNat A)), .val (.int (Int32.ofNat B)), .val (.ref b6), .unset, .unset, .unset] [(.ref b30)])) _
      refine XS.astore X37.here hx rfl (hb hby at_48) rfl rfl (l' := #[.val (.long x0), .second, .val (.long x1), .second, .val (.long x2), .second, .val (.long x3), .second, .val (.int p4), .val (.int p5), .val (.int (Int32.ofNat A)), .val (.int (Int32.ofNat B)), .val (.ref b6), .val (.ref b30), .unset, .unset]) rfl ?_
      show Steps p.tables e below (T37.setTop (mkF m 50 #[.val (.long x0), .second, .val (.long x1), .second, .val (.long x2), .second, .val (.long x3), .second, .val (.int p4), .val (.int p5), .val (.int (Int32.ofNat A)), .val (.int (Int32.ofNat B)), .val (.ref b6), .val (.ref b30), .unset, .unset] [])) _
      refine XS.lloadN X37.here hx rfl (hb hby at_50) rfl ?_
      show Steps p.tables e below (T37.setTop (mkF m 51 #[.val (.long x0), .second, .val (.long x1), .second, .val (.long x2), .second, .val (.long x3), .second, .val (.int p4), .val (.int p5), .val (.int (Int32.ofNat A)), .val (.int (Int32.ofNat B)), .val (.ref b6), .val (.ref b30), .unset, .unset] [(.long x0)])) _
      refine XS.iconst X37.here hx rfl (hb hby at_51) ?_
      show Steps p.tables e below (T37.setTop (mkF m 52 #[.val (.long x0), .second, .val (.long x1), .second, .val (.long x2), .second, .val (.long x3), .second, .val (.int p4), .val (.int p5), .val (.int (Int32.ofNat A)), .val (.int (Int32.ofNat B)), .val (.ref b6), .val (.ref b30), .unset, .unset] [(.int (0 : Int32)), (.long x0)])) _
      refine XS.iload X37.here hx rfl (hb hby at_52) rfl ?_
      show Steps p.tables e below (T37.setTop (mkF m 54 #[.val (.long x0), .second, .val (.long x1), .second, .val (.long x2), .second, .val (.long x3), .second, .val (.int p4), .val (.int p5), .val (.int (Int32.ofNat A)), .val (.int (Int32.ofNat B)), .val (.ref b6), .val (.ref b30), .unset, .unset] [(.int (Int32.ofNat A)), (.int (0 : Int32)), (.long x0)])) _
      refine XS.iload X37.here hx rfl (hb hby at_54) rfl ?_
      exact k)
  have J42 : ∀ t, Steps p.tables e below (T37.setTop (mkF m 56 #[.val (.long x0), .second, .val (.long x1), .second, .val (.long x2), .second, .val (.long x3), .second, .val (.int p4), .val (.int p5), .val (.int (Int32.ofNat A)), .val (.int (Int32.ofNat B)), .val (.ref b6), .val (.ref b30), .unset, .unset] [(.int (Int32.ofNat B)), (.int (Int32.ofNat A)), (.int (Int32.ofNat 0)), (.long x0)])) t → Steps p.tables e below (s₁.setTop (entryFrame m #[(.long x0), (.long x1), (.long x2), (.long x3), (.int p4), (.int p5)] maxLocals)) t := J41
  obtain ⟨_, _, ⟨T43, L43, k43, n43⟩, -, X43, ⟨Lc43, hQ43, l43, y43, z43⟩, st43⟩ := Jvm.LawKit.callS X37 hx (y := (⟨"com/example/quantiscope/quantiscope/threshold/BinsCountPinLaw", "pick", "(JIII)J"⟩ : MethodName)) hown (mvT hZ (hw _ (List.mem_of_getElem? (i := 17) rfl))) (mvT hZ (hw _ (List.mem_of_getElem? (i := 18) rfl))) (mvT hZ (hw _ (List.mem_of_getElem? (i := 19) rfl))) (mvT hZ (hw _ (List.mem_of_getElem? (i := 20) rfl))) (by decide) (backOf (W := 0) (rm3 l Z a0 hw [] x0 0 A B T37.heap n0 Z40 (by decide) hA hB) hZ (hw _ (List.mem_of_getElem? (i := 20) rfl)) (hw _ (List.mem_of_getElem? (i := 19) rfl)) (by decide) (by decide)) (g := (mkF m 56 #[.val (.long x0), .second, .val (.long x1), .second, .val (.long x2), .second, .val (.long x3), .second, .val (.int p4), .val (.int p5), .val (.int (Int32.ofNat A)), .val (.int (Int32.ofNat B)), .val (.ref b6), .val (.ref b30), .unset, .unset] [(.int (Int32.ofNat B)), (.int (Int32.ofNat A)), (.int (Int32.ofNat 0)), (.long x0)])) rfl (by rw [hml]; rfl) (argsL := [(.long x0), (.int (Int32.ofNat 0)), (.int (Int32.ofNat A)), (.int (Int32.ofNat B))]) (rest := []) (lenOf pd_1 rfl) rfl (by show 2 * 0 + _ ≤ _; exact Nat.le_of_eq rfl) (hb hby at_56) (fun _ _ => ⟨rfl, rfl, (by decide : 5 + 0 ≤ _), (by decide : 22 + 0 ≤ _)⟩)
  dsimp only [Pt.U, Pt.locs, Pt.cells, Pt.slots] at X43 l43 y43 z43 st43 hQ43
  subst l43 y43 z43
  obtain ⟨rfl, Nq43, e43⟩ := hQ43
  have N44 := Fr.app N38 Nq43
  have J45 : ∀ t, Steps p.tables e below (T43.setTop (mkF m 59 #[.val (.long x0), .second, .val (.long x1), .second, .val (.long x2), .second, .val (.long x3), .second, .val (.int p4), .val (.int p5), .val (.int (Int32.ofNat A)), .val (.int (Int32.ofNat B)), .val (.ref b6), .val (.ref b30), .unset, .unset] [(.long (own_pick x0 0 A B))])) t → Steps p.tables e below (s₁.setTop (entryFrame m #[(.long x0), (.long x1), (.long x2), (.long x3), (.int p4), (.int p5)] maxLocals)) t := fun t k => J42 t (st43 t k)
  have J46 : ∀ t, Steps p.tables e below (T43.setTop (mkF m 65 #[.val (.long x0), .second, .val (.long x1), .second, .val (.long x2), .second, .val (.long x3), .second, .val (.int p4), .val (.int p5), .val (.int (Int32.ofNat A)), .val (.int (Int32.ofNat B)), .val (.ref b6), .val (.ref b30), .unset, .unset] [(.int (Int32.ofNat B)), (.int (Int32.ofNat A)), (.int (1 : Int32)), (.long x1), (.long (own_pick x0 0 A B))])) t → Steps p.tables e below (s₁.setTop (entryFrame m #[(.long x0), (.long x1), (.long x2), (.long x3), (.int p4), (.int p5)] maxLocals)) t := fun t k => J45 t (by
      show Steps p.tables e below (T43.setTop (mkF m 59 #[.val (.long x0), .second, .val (.long x1), .second, .val (.long x2), .second, .val (.long x3), .second, .val (.int p4), .val (.int p5), .val (.int (Int32.ofNat A)), .val (.int (Int32.ofNat B)), .val (.ref b6), .val (.ref b30), .unset, .unset] [(.long (own_pick x0 0 A B))])) _
      refine XS.lloadN X43.here hx rfl (hb hby at_59) rfl ?_
      show Steps p.tables e below (T43.setTop (mkF m 60 #[.val (.long x0), .second, .val (.long x1), .second, .val (.long x2), .second, .val (.long x3), .second, .val (.int p4), .val (.int p5), .val (.int (Int32.ofNat A)), .val (.int (Int32.ofNat B)), .val (.ref b6), .val (.ref b30), .unset, .unset] [(.long x1), (.long (own_pick x0 0 A B))])) _
      refine XS.iconst X43.here hx rfl (hb hby at_60) ?_
      show Steps p.tables e below (T43.setTop (mkF m 61 #[.val (.long x0), .second, .val (.long x1), .second, .val (.long x2), .second, .val (.long x3), .second, .val (.int p4), .val (.int p5), .val (.int (Int32.ofNat A)), .val (.int (Int32.ofNat B)), .val (.ref b6), .val (.ref b30), .unset, .unset] [(.int (1 : Int32)), (.long x1), (.long (own_pick x0 0 A B))])) _
      refine XS.iload X43.here hx rfl (hb hby at_61) rfl ?_
      show Steps p.tables e below (T43.setTop (mkF m 63 #[.val (.long x0), .second, .val (.long x1), .second, .val (.long x2), .second, .val (.long x3), .second, .val (.int p4), .val (.int p5), .val (.int (Int32.ofNat A)), .val (.int (Int32.ofNat B)), .val (.ref b6), .val (.ref b30), .unset, .unset] [(.int (Int32.ofNat A)), (.int (1 : Int32)), (.long x1), (.long (own_pick x0 0 A B))])) _
      refine XS.iload X43.here hx rfl (hb hby at_63) rfl ?_
      exact k)
  have J47 : ∀ t, Steps p.tables e below (T43.setTop (mkF m 65 #[.val (.long x0), .second, .val (.long x1), .second, .val (.long x2), .second, .val (.long x3), .second, .val (.int p4), .val (.int p5), .val (.int (Int32.ofNat A)), .val (.int (Int32.ofNat B)), .val (.ref b6), .val (.ref b30), .unset, .unset] [(.int (Int32.ofNat B)), (.int (Int32.ofNat A)), (.int (Int32.ofNat 1)), (.long x1), (.long (own_pick x0 0 A B))])) t → Steps p.tables e below (s₁.setTop (entryFrame m #[(.long x0), (.long x1), (.long x2), (.long x3), (.int p4), (.int p5)] maxLocals)) t := J46
  obtain ⟨_, _, ⟨T48, L48, k48, n48⟩, -, X48, ⟨Lc48, hQ48, l48, y48, z48⟩, st48⟩ := Jvm.LawKit.callS X43 hx (y := (⟨"com/example/quantiscope/quantiscope/threshold/BinsCountPinLaw", "pick", "(JIII)J"⟩ : MethodName)) hown (mvT hZ (hw _ (List.mem_of_getElem? (i := 17) rfl))) (mvT hZ (hw _ (List.mem_of_getElem? (i := 18) rfl))) (mvT hZ (hw _ (List.mem_of_getElem? (i := 19) rfl))) (mvT hZ (hw _ (List.mem_of_getElem? (i := 20) rfl))) (by decide) (backOf (W := 2) (rm3 l Z a0 hw [] x1 1 A B T37.heap n0 Z40 (by decide) hA hB) hZ (hw _ (List.mem_of_getElem? (i := 20) rfl)) (hw _ (List.mem_of_getElem? (i := 19) rfl)) (by decide) (by decide)) (g := (mkF m 65 #[.val (.long x0), .second, .val (.long x1), .second, .val (.long x2), .second, .val (.long x3), .second, .val (.int p4), .val (.int p5), .val (.int (Int32.ofNat A)), .val (.int (Int32.ofNat B)), .val (.ref b6), .val (.ref b30), .unset, .unset] [(.int (Int32.ofNat B)), (.int (Int32.ofNat A)), (.int (Int32.ofNat 1)), (.long x1), (.long (own_pick x0 0 A B))])) rfl (by rw [hml]; rfl) (argsL := [(.long x1), (.int (Int32.ofNat 1)), (.int (Int32.ofNat A)), (.int (Int32.ofNat B))]) (rest := [(.long (own_pick x0 0 A B))]) (lenOf pd_1 rfl) rfl (by show 2 * 0 + _ ≤ _; exact Nat.le_of_eq rfl) (hb hby at_65) (fun _ _ => ⟨rfl, e43, (by decide : 5 + 0 ≤ _), (by decide : 22 + 0 ≤ _)⟩)
  dsimp only [Pt.U, Pt.locs, Pt.cells, Pt.slots] at X48 l48 y48 z48 st48 hQ48
  subst l48 y48 z48
  obtain ⟨rfl, Nq48, e48⟩ := hQ48
  have N49 := Fr.app N44 Nq48
  have J50 : ∀ t, Steps p.tables e below (T48.setTop (mkF m 68 #[.val (.long x0), .second, .val (.long x1), .second, .val (.long x2), .second, .val (.long x3), .second, .val (.int p4), .val (.int p5), .val (.int (Int32.ofNat A)), .val (.int (Int32.ofNat B)), .val (.ref b6), .val (.ref b30), .unset, .unset] [(.long (own_pick x1 1 A B)), (.long (own_pick x0 0 A B))])) t → Steps p.tables e below (s₁.setTop (entryFrame m #[(.long x0), (.long x1), (.long x2), (.long x3), (.int p4), (.int p5)] maxLocals)) t := fun t k => J47 t (st48 t k)
  have J51 : ∀ t, Steps p.tables e below (T48.setTop (mkF m 76 #[.val (.long x0), .second, .val (.long x1), .second, .val (.long x2), .second, .val (.long x3), .second, .val (.int p4), .val (.int p5), .val (.int (Int32.ofNat A)), .val (.int (Int32.ofNat B)), .val (.ref b6), .val (.ref b30), .unset, .unset] [(.int (Int32.ofNat B)), (.int (Int32.ofNat A)), (.int (2 : Int32)), (.long x2), (.long ((own_pick x0 0 A B) + (own_pick x1 1 A B)))])) t → Steps p.tables e below (s₁.setTop (entryFrame m #[(.long x0), (.long x1), (.long x2), (.long x3), (.int p4), (.int p5)] maxLocals)) t := fun t k => J50 t (by
      show Steps p.tables e below (T48.setTop (mkF m 68 #[.val (.long x0), .second, .val (.long x1), .second, .val (.long x2), .second, .val (.long x3), .second, .val (.int p4), .val (.int p5), .val (.int (Int32.ofNat A)), .val (.int (Int32.ofNat B)), .val (.ref b6), .val (.ref b30), .unset, .unset] [(.long (own_pick x1 1 A B)), (.long (own_pick x0 0 A B))])) _
      refine XS.ladd X48.here hx rfl (hb hby at_68) rfl ?_
      show Steps p.tables e below (T48.setTop (mkF m 69 #[.val (.long x0), .second, .val (.long x1), .second, .val (.long x2), .second, .val (.long x3), .second, .val (.int p4), .val (.int p5), .val (.int (Int32.ofNat A)), .val (.int (Int32.ofNat B)), .val (.ref b6), .val (.ref b30), .unset, .unset] [(.long ((own_pick x0 0 A B) + (own_pick x1 1 A B)))])) _
      refine XS.lload X48.here hx rfl (hb hby at_69) rfl ?_
      show Steps p.tables e below (T48.setTop (mkF m 71 #[.val (.long x0), .second, .val (.long x1), .second, .val (.long x2), .second, .val (.long x3), .second, .val (.int p4), .val (.int p5), .val (.int (Int32.ofNat A)), .val (.int (Int32.ofNat B)), .val (.ref b6), .val (.ref b30), .unset, .unset] [(.long x2), (.long ((own_pick x0 0 A B) + (own_pick x1 1 A B)))])) _
      refine XS.iconst X48.here hx rfl (hb hby at_71) ?_
      show Steps p.tables e below (T48.setTop (mkF m 72 #[.val (.long x0), .second, .val (.long x1), .second, .val (.long x2), .second, .val (.long x3), .second, .val (.int p4), .val (.int p5), .val (.int (Int32.ofNat A)), .val (.int (Int32.ofNat B)), .val (.ref b6), .val (.ref b30), .unset, .unset] [(.int (2 : Int32)), (.long x2), (.long ((own_pick x0 0 A B) + (own_pick x1 1 A B)))])) _
      refine XS.iload X48.here hx rfl (hb hby at_72) rfl ?_
      show Steps p.tables e below (T48.setTop (mkF m 74 #[.val (.long x0), .second, .val (.long x1), .second, .val (.long x2), .second, .val (.long x3), .second, .val (.int p4), .val (.int p5), .val (.int (Int32.ofNat A)), .val (.int (Int32.ofNat B)), .val (.ref b6), .val (.ref b30), .unset, .unset] [(.int (Int32.ofNat A)), (.int (2 : Int32)), (.long x2), (.long ((own_pick x0 0 A B) + (own_pick x1 1 A B)))])) _
      refine XS.iload X48.here hx rfl (hb hby at_74) rfl ?_
      exact k)
  have J52 : ∀ t, Steps p.tables e below (T48.setTop (mkF m 76 #[.val (.long x0), .second, .val (.long x1), .second, .val (.long x2), .second, .val (.long x3), .second, .val (.int p4), .val (.int p5), .val (.int (Int32.ofNat A)), .val (.int (Int32.ofNat B)), .val (.ref b6), .val (.ref b30), .unset, .unset] [(.int (Int32.ofNat B)), (.int (Int32.ofNat A)), (.int (Int32.ofNat 2)), (.long x2), (.long ((own_pick x0 0 A B) + (own_pick x1 1 A B)))])) t → Steps p.tables e below (s₁.setTop (entryFrame m #[(.long x0), (.long x1), (.long x2), (.long x3), (.int p4), (.int p5)] maxLocals)) t := J51
  obtain ⟨_, _, ⟨T53, L53, k53, n53⟩, -, X53, ⟨Lc53, hQ53, l53, y53, z53⟩, st53⟩ := Jvm.LawKit.callS X48 hx (y := (⟨"com/example/quantiscope/quantiscope/threshold/BinsCountPinLaw", "pick", "(JIII)J"⟩ : MethodName)) hown (mvT hZ (hw _ (List.mem_of_getElem? (i := 17) rfl))) (mvT hZ (hw _ (List.mem_of_getElem? (i := 18) rfl))) (mvT hZ (hw _ (List.mem_of_getElem? (i := 19) rfl))) (mvT hZ (hw _ (List.mem_of_getElem? (i := 20) rfl))) (by decide) (backOf (W := 2) (rm3 l Z a0 hw [] x2 2 A B T37.heap n0 Z40 (by decide) hA hB) hZ (hw _ (List.mem_of_getElem? (i := 20) rfl)) (hw _ (List.mem_of_getElem? (i := 19) rfl)) (by decide) (by decide)) (g := (mkF m 76 #[.val (.long x0), .second, .val (.long x1), .second, .val (.long x2), .second, .val (.long x3), .second, .val (.int p4), .val (.int p5), .val (.int (Int32.ofNat A)), .val (.int (Int32.ofNat B)), .val (.ref b6), .val (.ref b30), .unset, .unset] [(.int (Int32.ofNat B)), (.int (Int32.ofNat A)), (.int (Int32.ofNat 2)), (.long x2), (.long ((own_pick x0 0 A B) + (own_pick x1 1 A B)))])) rfl (by rw [hml]; rfl) (argsL := [(.long x2), (.int (Int32.ofNat 2)), (.int (Int32.ofNat A)), (.int (Int32.ofNat B))]) (rest := [(.long ((own_pick x0 0 A B) + (own_pick x1 1 A B)))]) (lenOf pd_1 rfl) rfl (by show 2 * 0 + _ ≤ _; exact Nat.le_of_eq rfl) (hb hby at_76) (fun _ _ => ⟨rfl, e48, (by decide : 5 + 0 ≤ _), (by decide : 22 + 0 ≤ _)⟩)
  dsimp only [Pt.U, Pt.locs, Pt.cells, Pt.slots] at X53 l53 y53 z53 st53 hQ53
  subst l53 y53 z53
  obtain ⟨rfl, Nq53, e53⟩ := hQ53
  have N54 := Fr.app N49 Nq53
  have J55 : ∀ t, Steps p.tables e below (T53.setTop (mkF m 79 #[.val (.long x0), .second, .val (.long x1), .second, .val (.long x2), .second, .val (.long x3), .second, .val (.int p4), .val (.int p5), .val (.int (Int32.ofNat A)), .val (.int (Int32.ofNat B)), .val (.ref b6), .val (.ref b30), .unset, .unset] [(.long (own_pick x2 2 A B)), (.long ((own_pick x0 0 A B) + (own_pick x1 1 A B)))])) t → Steps p.tables e below (s₁.setTop (entryFrame m #[(.long x0), (.long x1), (.long x2), (.long x3), (.int p4), (.int p5)] maxLocals)) t := fun t k => J52 t (st53 t k)
  have J56 : ∀ t, Steps p.tables e below (T53.setTop (mkF m 87 #[.val (.long x0), .second, .val (.long x1), .second, .val (.long x2), .second, .val (.long x3), .second, .val (.int p4), .val (.int p5), .val (.int (Int32.ofNat A)), .val (.int (Int32.ofNat B)), .val (.ref b6), .val (.ref b30), .unset, .unset] [(.int (Int32.ofNat B)), (.int (Int32.ofNat A)), (.int (3 : Int32)), (.long x3), (.long (((own_pick x0 0 A B) + (own_pick x1 1 A B)) + (own_pick x2 2 A B)))])) t → Steps p.tables e below (s₁.setTop (entryFrame m #[(.long x0), (.long x1), (.long x2), (.long x3), (.int p4), (.int p5)] maxLocals)) t := fun t k => J55 t (by
      show Steps p.tables e below (T53.setTop (mkF m 79 #[.val (.long x0), .second, .val (.long x1), .second, .val (.long x2), .second, .val (.long x3), .second, .val (.int p4), .val (.int p5), .val (.int (Int32.ofNat A)), .val (.int (Int32.ofNat B)), .val (.ref b6), .val (.ref b30), .unset, .unset] [(.long (own_pick x2 2 A B)), (.long ((own_pick x0 0 A B) + (own_pick x1 1 A B)))])) _
      refine XS.ladd X53.here hx rfl (hb hby at_79) rfl ?_
      show Steps p.tables e below (T53.setTop (mkF m 80 #[.val (.long x0), .second, .val (.long x1), .second, .val (.long x2), .second, .val (.long x3), .second, .val (.int p4), .val (.int p5), .val (.int (Int32.ofNat A)), .val (.int (Int32.ofNat B)), .val (.ref b6), .val (.ref b30), .unset, .unset] [(.long (((own_pick x0 0 A B) + (own_pick x1 1 A B)) + (own_pick x2 2 A B)))])) _
      refine XS.lload X53.here hx rfl (hb hby at_80) rfl ?_
      show Steps p.tables e below (T53.setTop (mkF m 82 #[.val (.long x0), .second, .val (.long x1), .second, .val (.long x2), .second, .val (.long x3), .second, .val (.int p4), .val (.int p5), .val (.int (Int32.ofNat A)), .val (.int (Int32.ofNat B)), .val (.ref b6), .val (.ref b30), .unset, .unset] [(.long x3), (.long (((own_pick x0 0 A B) + (own_pick x1 1 A B)) + (own_pick x2 2 A B)))])) _
      refine XS.iconst X53.here hx rfl (hb hby at_82) ?_
      show Steps p.tables e below (T53.setTop (mkF m 83 #[.val (.long x0), .second, .val (.long x1), .second, .val (.long x2), .second, .val (.long x3), .second, .val (.int p4), .val (.int p5), .val (.int (Int32.ofNat A)), .val (.int (Int32.ofNat B)), .val (.ref b6), .val (.ref b30), .unset, .unset] [(.int (3 : Int32)), (.long x3), (.long (((own_pick x0 0 A B) + (own_pick x1 1 A B)) + (own_pick x2 2 A B)))])) _
      refine XS.iload X53.here hx rfl (hb hby at_83) rfl ?_
      show Steps p.tables e below (T53.setTop (mkF m 85 #[.val (.long x0), .second, .val (.long x1), .second, .val (.long x2), .second, .val (.long x3), .second, .val (.int p4), .val (.int p5), .val (.int (Int32.ofNat A)), .val (.int (Int32.ofNat B)), .val (.ref b6), .val (.ref b30), .unset, .unset] [(.int (Int32.ofNat A)), (.int (3 : Int32)), (.long x3), (.long (((own_pick x0 0 A B) + (own_pick x1 1 A B)) + (own_pick x2 2 A B)))])) _
      refine XS.iload X53.here hx rfl (hb hby at_85) rfl ?_
      exact k)
  have J57 : ∀ t, Steps p.tables e below (T53.setTop (mkF m 87 #[.val (.long x0), .second, .val (.long x1), .second, .val (.long x2), .second, .val (.long x3), .second, .val (.int p4), .val (.int p5), .val (.int (Int32.ofNat A)), .val (.int (Int32.ofNat B)), .val (.ref b6), .val (.ref b30), .unset, .unset] [(.int (Int32.ofNat B)), (.int (Int32.ofNat A)), (.int (Int32.ofNat 3)), (.long x3), (.long (((own_pick x0 0 A B) + (own_pick x1 1 A B)) + (own_pick x2 2 A B)))])) t → Steps p.tables e below (s₁.setTop (entryFrame m #[(.long x0), (.long x1), (.long x2), (.long x3), (.int p4), (.int p5)] maxLocals)) t := J56
  obtain ⟨_, _, ⟨T58, L58, k58, n58⟩, -, X58, ⟨Lc58, hQ58, l58, y58, z58⟩, st58⟩ := Jvm.LawKit.callS X53 hx (y := (⟨"com/example/quantiscope/quantiscope/threshold/BinsCountPinLaw", "pick", "(JIII)J"⟩ : MethodName)) hown (mvT hZ (hw _ (List.mem_of_getElem? (i := 17) rfl))) (mvT hZ (hw _ (List.mem_of_getElem? (i := 18) rfl))) (mvT hZ (hw _ (List.mem_of_getElem? (i := 19) rfl))) (mvT hZ (hw _ (List.mem_of_getElem? (i := 20) rfl))) (by decide) (backOf (W := 2) (rm3 l Z a0 hw [] x3 3 A B T37.heap n0 Z40 (by decide) hA hB) hZ (hw _ (List.mem_of_getElem? (i := 20) rfl)) (hw _ (List.mem_of_getElem? (i := 19) rfl)) (by decide) (by decide)) (g := (mkF m 87 #[.val (.long x0), .second, .val (.long x1), .second, .val (.long x2), .second, .val (.long x3), .second, .val (.int p4), .val (.int p5), .val (.int (Int32.ofNat A)), .val (.int (Int32.ofNat B)), .val (.ref b6), .val (.ref b30), .unset, .unset] [(.int (Int32.ofNat B)), (.int (Int32.ofNat A)), (.int (Int32.ofNat 3)), (.long x3), (.long (((own_pick x0 0 A B) + (own_pick x1 1 A B)) + (own_pick x2 2 A B)))])) rfl (by rw [hml]; rfl) (argsL := [(.long x3), (.int (Int32.ofNat 3)), (.int (Int32.ofNat A)), (.int (Int32.ofNat B))]) (rest := [(.long (((own_pick x0 0 A B) + (own_pick x1 1 A B)) + (own_pick x2 2 A B)))]) (lenOf pd_1 rfl) rfl (by show 2 * 0 + _ ≤ _; exact Nat.le_of_eq rfl) (hb hby at_87) (fun _ _ => ⟨rfl, e53, (by decide : 5 + 0 ≤ _), (by decide : 22 + 0 ≤ _)⟩)
  dsimp only [Pt.U, Pt.locs, Pt.cells, Pt.slots] at X58 l58 y58 z58 st58 hQ58
  subst l58 y58 z58
  obtain ⟨rfl, Nq58, e58⟩ := hQ58
  have N59 := Fr.app N54 Nq58
  have J60 : ∀ t, Steps p.tables e below (T58.setTop (mkF m 90 #[.val (.long x0), .second, .val (.long x1), .second, .val (.long x2), .second, .val (.long x3), .second, .val (.int p4), .val (.int p5), .val (.int (Int32.ofNat A)), .val (.int (Int32.ofNat B)), .val (.ref b6), .val (.ref b30), .unset, .unset] [(.long (own_pick x3 3 A B)), (.long (((own_pick x0 0 A B) + (own_pick x1 1 A B)) + (own_pick x2 2 A B)))])) t → Steps p.tables e below (s₁.setTop (entryFrame m #[(.long x0), (.long x1), (.long x2), (.long x3), (.int p4), (.int p5)] maxLocals)) t := fun t k => J57 t (st58 t k)
  have J61 : ∀ t, Steps p.tables e below (T58.setTop (mkF m 99 #[.val (.long x0), .second, .val (.long x1), .second, .val (.long x2), .second, .val (.long x3), .second, .val (.int p4), .val (.int p5), .val (.int (Int32.ofNat A)), .val (.int (Int32.ofNat B)), .val (.ref b6), .val (.ref b30), .val (.long ((((own_pick x0 0 A B) + (own_pick x1 1 A B)) + (own_pick x2 2 A B)) + (own_pick x3 3 A B))), .second] [(.int (Int32.ofNat B)), (.int (Int32.ofNat A)), (.ref b30)])) t → Steps p.tables e below (s₁.setTop (entryFrame m #[(.long x0), (.long x1), (.long x2), (.long x3), (.int p4), (.int p5)] maxLocals)) t := fun t k => J60 t (by
      show Steps p.tables e below (T58.setTop (mkF m 90 #[.val (.long x0), .second, .val (.long x1), .second, .val (.long x2), .second, .val (.long x3), .second, .val (.int p4), .val (.int p5), .val (.int (Int32.ofNat A)), .val (.int (Int32.ofNat B)), .val (.ref b6), .val (.ref b30), .unset, .unset] [(.long (own_pick x3 3 A B)), (.long (((own_pick x0 0 A B) + (own_pick x1 1 A B)) + (own_pick x2 2 A B)))])) _
      refine XS.ladd X58.here hx rfl (hb hby at_90) rfl ?_
      show Steps p.tables e below (T58.setTop (mkF m 91 #[.val (.long x0), .second, .val (.long x1), .second, .val (.long x2), .second, .val (.long x3), .second, .val (.int p4), .val (.int p5), .val (.int (Int32.ofNat A)), .val (.int (Int32.ofNat B)), .val (.ref b6), .val (.ref b30), .unset, .unset] [(.long ((((own_pick x0 0 A B) + (own_pick x1 1 A B)) + (own_pick x2 2 A B)) + (own_pick x3 3 A B)))])) _
      refine XS.lstore X58.here hx rfl (hb hby at_91) rfl (l' := #[.val (.long x0), .second, .val (.long x1), .second, .val (.long x2), .second, .val (.long x3), .second, .val (.int p4), .val (.int p5), .val (.int (Int32.ofNat A)), .val (.int (Int32.ofNat B)), .val (.ref b6), .val (.ref b30), .val (.long ((((own_pick x0 0 A B) + (own_pick x1 1 A B)) + (own_pick x2 2 A B)) + (own_pick x3 3 A B))), .second]) rfl ?_
      show Steps p.tables e below (T58.setTop (mkF m 93 #[.val (.long x0), .second, .val (.long x1), .second, .val (.long x2), .second, .val (.long x3), .second, .val (.int p4), .val (.int p5), .val (.int (Int32.ofNat A)), .val (.int (Int32.ofNat B)), .val (.ref b6), .val (.ref b30), .val (.long ((((own_pick x0 0 A B) + (own_pick x1 1 A B)) + (own_pick x2 2 A B)) + (own_pick x3 3 A B))), .second] [])) _
      refine XS.aload X58.here hx rfl (hb hby at_93) rfl rfl ?_
      show Steps p.tables e below (T58.setTop (mkF m 95 #[.val (.long x0), .second, .val (.long x1), .second, .val (.long x2), .second, .val (.long x3), .second, .val (.int p4), .val (.int p5), .val (.int (Int32.ofNat A)), .val (.int (Int32.ofNat B)), .val (.ref b6), .val (.ref b30), .val (.long ((((own_pick x0 0 A B) + (own_pick x1 1 A B)) + (own_pick x2 2 A B)) + (own_pick x3 3 A B))), .second] [(.ref b30)])) _
      refine XS.iload X58.here hx rfl (hb hby at_95) rfl ?_
      show Steps p.tables e below (T58.setTop (mkF m 97 #[.val (.long x0), .second, .val (.long x1), .second, .val (.long x2), .second, .val (.long x3), .second, .val (.int p4), .val (.int p5), .val (.int (Int32.ofNat A)), .val (.int (Int32.ofNat B)), .val (.ref b6), .val (.ref b30), .val (.long ((((own_pick x0 0 A B) + (own_pick x1 1 A B)) + (own_pick x2 2 A B)) + (own_pick x3 3 A B))), .second] [(.int (Int32.ofNat A)), (.ref b30)])) _
      refine XS.iload X58.here hx rfl (hb hby at_97) rfl ?_
      exact k)
  obtain ⟨cq62, kq62, q62a, q62b, q62c⟩ := isOf hZ e58 p37_1
  obtain ⟨_, _, ⟨T62, L62, k62, n62⟩, -, X62, ⟨Lc62, hQ62, l62, y62, z62⟩, st62⟩ := X58.virtualBack hx (y := (⟨"com/example/quantiscope/quantiscope/threshold/Bins", "count", "(II)J"⟩ : MethodName)) (z := (⟨"com/example/quantiscope/quantiscope/threshold/Bins", "count", "(II)J"⟩ : MethodName)) hown (mvT hZ (hw _ (List.mem_of_getElem? (i := 21) rfl))) (mvT hZ (hw _ (List.mem_of_getElem? (i := 22) rfl))) (notFace_of_selects (args := #[]) (mvT hZ (hw _ (List.mem_of_getElem? (i := 24) rfl)))) (mvT hZ (hw _ (List.mem_of_getElem? (i := 24) rfl))) (mvT hZ (hw _ (List.mem_of_getElem? (i := 23) rfl))) (by decide) (backOf (W := 0) (rm4 l Z a0 hw [] b30 b1_37 cl1_37 x0 x1 x2 x3 A B T37.heap n0 Z40 p37_2 p37_3 p37_4 hA hB) hZ (hw _ (List.mem_of_getElem? (i := 25) rfl)) (hw _ (List.mem_of_getElem? (i := 3) rfl)) (by decide) (by decide)) q62a q62c (g := (mkF m 99 #[.val (.long x0), .second, .val (.long x1), .second, .val (.long x2), .second, .val (.long x3), .second, .val (.int p4), .val (.int p5), .val (.int (Int32.ofNat A)), .val (.int (Int32.ofNat B)), .val (.ref b6), .val (.ref b30), .val (.long ((((own_pick x0 0 A B) + (own_pick x1 1 A B)) + (own_pick x2 2 A B)) + (own_pick x3 3 A B))), .second] [(.int (Int32.ofNat B)), (.int (Int32.ofNat A)), (.ref b30)])) rfl (by rw [hml]; rfl) (Steps.refl _) (argsL := [(.int (Int32.ofNat A)), (.int (Int32.ofNat B))]) (rest := []) (lenOf pd_2 rfl) rfl (by show 2 * 0 + _ ≤ _; exact Nat.le_of_eq rfl) (hb hby at_99) (fun _ _ => ⟨rfl, e58, (by decide : 5 + 0 ≤ _), (by decide : 22 + 0 ≤ _)⟩)
  dsimp only [Pt.U, Pt.locs, Pt.cells, Pt.slots] at X62 l62 y62 z62 st62 hQ62
  subst l62 y62 z62
  obtain ⟨rfl, Nq62, e62⟩ := hQ62
  have N63 := Fr.app N59 Nq62
  have J64 : ∀ t, Steps p.tables e below (T62.setTop (mkF m 102 #[.val (.long x0), .second, .val (.long x1), .second, .val (.long x2), .second, .val (.long x3), .second, .val (.int p4), .val (.int p5), .val (.int (Int32.ofNat A)), .val (.int (Int32.ofNat B)), .val (.ref b6), .val (.ref b30), .val (.long ((((own_pick x0 0 A B) + (own_pick x1 1 A B)) + (own_pick x2 2 A B)) + (own_pick x3 3 A B))), .second] [(.long (own_cnt x0 x1 x2 x3 A B))])) t → Steps p.tables e below (s₁.setTop (entryFrame m #[(.long x0), (.long x1), (.long x2), (.long x3), (.int p4), (.int p5)] maxLocals)) t := fun t k => J61 t (st62.trans k)
  have J65 : ∀ t, Steps p.tables e below (T62.setTop (mkF m 113 #[.val (.long x0), .second, .val (.long x1), .second, .val (.long x2), .second, .val (.long x3), .second, .val (.int p4), .val (.int p5), .val (.int (Int32.ofNat A)), .val (.int (Int32.ofNat B)), .val (.ref b6), .val (.ref b30), .val (.long ((((own_pick x0 0 A B) + (own_pick x1 1 A B)) + (own_pick x2 2 A B)) + (own_pick x3 3 A B))), .second] [(.int (1 : Int32))])) t → Steps p.tables e below (s₁.setTop (entryFrame m #[(.long x0), (.long x1), (.long x2), (.long x3), (.int p4), (.int p5)] maxLocals)) t := fun t k => J64 t (by
      show Steps p.tables e below (T62.setTop (mkF m 102 #[.val (.long x0), .second, .val (.long x1), .second, .val (.long x2), .second, .val (.long x3), .second, .val (.int p4), .val (.int p5), .val (.int (Int32.ofNat A)), .val (.int (Int32.ofNat B)), .val (.ref b6), .val (.ref b30), .val (.long ((((own_pick x0 0 A B) + (own_pick x1 1 A B)) + (own_pick x2 2 A B)) + (own_pick x3 3 A B))), .second] [(.long (own_cnt x0 x1 x2 x3 A B))])) _
      refine XS.lload X62.here hx rfl (hb hby at_102) rfl ?_
      show Steps p.tables e below (T62.setTop (mkF m 104 #[.val (.long x0), .second, .val (.long x1), .second, .val (.long x2), .second, .val (.long x3), .second, .val (.int p4), .val (.int p5), .val (.int (Int32.ofNat A)), .val (.int (Int32.ofNat B)), .val (.ref b6), .val (.ref b30), .val (.long ((((own_pick x0 0 A B) + (own_pick x1 1 A B)) + (own_pick x2 2 A B)) + (own_pick x3 3 A B))), .second] [(.long ((((own_pick x0 0 A B) + (own_pick x1 1 A B)) + (own_pick x2 2 A B)) + (own_pick x3 3 A B))), (.long (own_cnt x0 x1 x2 x3 A B))])) _
      refine XS.lcmp X62.here hx rfl (hb hby at_104) rfl ?_
      show Steps p.tables e below (T62.setTop (mkF m 105 #[.val (.long x0), .second, .val (.long x1), .second, .val (.long x2), .second, .val (.long x3), .second, .val (.int p4), .val (.int p5), .val (.int (Int32.ofNat A)), .val (.int (Int32.ofNat B)), .val (.ref b6), .val (.ref b30), .val (.long ((((own_pick x0 0 A B) + (own_pick x1 1 A B)) + (own_pick x2 2 A B)) + (own_pick x3 3 A B))), .second] [(.int (lcmpW (own_cnt x0 x1 x2 x3 A B) ((((own_pick x0 0 A B) + (own_pick x1 1 A B)) + (own_pick x2 2 A B)) + (own_pick x3 3 A B))))])) _
      refine XS.ifNo X62.here hx rfl (hb hby at_105) rfl ((if0 _ _).trans (teq ((lw_eq _ _).mpr (own_law x0 x1 x2 x3 hA hB))).2) ?_
      show Steps p.tables e below (T62.setTop (mkF m 108 #[.val (.long x0), .second, .val (.long x1), .second, .val (.long x2), .second, .val (.long x3), .second, .val (.int p4), .val (.int p5), .val (.int (Int32.ofNat A)), .val (.int (Int32.ofNat B)), .val (.ref b6), .val (.ref b30), .val (.long ((((own_pick x0 0 A B) + (own_pick x1 1 A B)) + (own_pick x2 2 A B)) + (own_pick x3 3 A B))), .second] [])) _
      refine XS.iconst X62.here hx rfl (hb hby at_108) ?_
      show Steps p.tables e below (T62.setTop (mkF m 109 #[.val (.long x0), .second, .val (.long x1), .second, .val (.long x2), .second, .val (.long x3), .second, .val (.int p4), .val (.int p5), .val (.int (Int32.ofNat A)), .val (.int (Int32.ofNat B)), .val (.ref b6), .val (.ref b30), .val (.long ((((own_pick x0 0 A B) + (own_pick x1 1 A B)) + (own_pick x2 2 A B)) + (own_pick x3 3 A B))), .second] [(.int (1 : Int32))])) _
      refine XS.goto X62.here hx rfl (pc0 := 109) (pc' := 113) rfl (hb hby at_109) (by decide) (by decide) ?_
      exact k)
  obtain ⟨fs, hr, hrun, hended, hW, hsame⟩ := X62.leave (v := some (.int (1 : Int32))) (fun h => by rw [Bd.returns] at h; cases h)
  refine ⟨_, _, J65 _ ?_, hrun, hended, _, _, rfl, ?_, ⟨_, rfl⟩, hW, hsame.mono (by decide) (by decide)⟩
  · show Steps p.tables e below (T62.setTop (mkF m 113 #[.val (.long x0), .second, .val (.long x1), .second, .val (.long x2), .second, .val (.long x3), .second, .val (.int p4), .val (.int p5), .val (.int (Int32.ofNat A)), .val (.int (Int32.ofNat B)), .val (.ref b6), .val (.ref b30), .val (.long ((((own_pick x0 0 A B) + (own_pick x1 1 A B)) + (own_pick x2 2 A B)) + (own_pick x3 3 A B))), .second] [(.int (1 : Int32))])) _
    exact retN X62 hx (t := .boolean) Bd.returns (by simp) (hb hby at_113) hr
  · show Q0 Z x0 x1 x2 x3 p4 p5 h0 n0 _ T62.heap _
    rw [e62]
    exact ⟨rfl, N63⟩
set_option maxRecDepth 65536 in
set_option maxHeartbeats 40000000 in
theorem comes_1 {Post : Tables → Env → Array Value → State → Outcome → State → Prop} (hpost : ∀ tb e args s v u, (limb_1_1.after args s (.returned v) u = true ∧ limb_1_2.after args s (.returned v) u = true ∧ True) → FrameEnd s (.returned v) u (Jvm.fieldLocs frame_1_writes args s ++ Jvm.arrayLocs frame_1_arrays args s ++ Jvm.staticLocs frame_1_statics s) 24 128 → Post tb e args s (.returned v) u) :
    ArmFor flags0 classFile x code maxLocals ret World_1 tables_1 room_1 Calls_1 rest_1 Pre_1 Post := by
  intro l hfl _ _ p e ha hc hk s m args below hf hA hF happ hP
  obtain ⟨hcalls, hrest, hpre⟩ := hP
  obtain ⟨-, -, -, hnamed, -, -, -, hat⟩ := (Spec.applies_iff hf).mp happ
  obtain ⟨hg, hn⟩ := and_e (Cond.before_iff.mp (show (Jvm.Cond.and given_1 narrow_1).before args s = true from hpre))
  obtain ⟨hcount, hg0⟩ := and_e hg
  obtain ⟨ga0, hg1⟩ := and_e hg0
  obtain ⟨ga1, hg2⟩ := and_e hg1
  obtain ⟨ga2, hg3⟩ := and_e hg2
  obtain ⟨ga3, hg4⟩ := and_e hg3
  obtain ⟨ga4, hg5⟩ := and_e hg4
  obtain ⟨w0, w1, w2, w3, w4, w5, rfl⟩ : ∃ w0 w1 w2 w3 w4 w5 : Value, args = #[w0, w1, w2, w3, w4, w5] := by
    have hs : args.size = 6 := by simpa [Cond.value, given_1] using hcount
    obtain ⟨L⟩ := args
    match L, hs with
    | [w0, w1, w2, w3, w4, w5], _ => exact ⟨w0, w1, w2, w3, w4, w5, rfl⟩
  have hw := fun d (hd : d ∈ tables_1) => atoms_spec (ws := Jvm.Cond.code x code maxLocals ret :: tables_1) hat d (List.mem_cons_of_mem _ hd)
  have hfit : Fit s := fun {y c} hc i hi => by
    obtain ⟨ha, rfl⟩ := Array.getElem?_eq_some_iff.mp hc
    have q := List.all_eq_true.mp ((Array.all_eq_true_iff_forall_mem.mp hF) _ (Array.getElem_mem ha)) i (List.mem_range.mpr hi)
    simpa [Array.getElem?_eq_getElem hi] using q
  obtain ⟨i0, ei0⟩ := isL_v ga0
  obtain rfl : w0 = (.long i0) := Option.some.inj ei0
  obtain ⟨i1, ei1⟩ := isL_v ga1
  obtain rfl : w1 = (.long i1) := Option.some.inj ei1
  obtain ⟨i2, ei2⟩ := isL_v ga2
  obtain rfl : w2 = (.long i2) := Option.some.inj ei2
  obtain ⟨i3, ei3⟩ := isL_v ga3
  obtain rfl : w3 = (.long i3) := Option.some.inj ei3
  obtain ⟨i4, ei4⟩ := is_v ga4
  obtain rfl : w4 = (.int i4) := Option.some.inj ei4
  obtain ⟨i5, ei5⟩ := is_v hg5
  obtain rfl : w5 = (.int i5) := Option.some.inj ei5
  obtain ⟨n, o, h1, h2, h3, _, L, rfl, ⟨rfl, N⟩, hq⟩ := rm0 l s _ hw tables_1 i0 i1 i2 i3 i4 i5 s.heap s.heap.size (Nat.le_refl _)  p e ha hc hk s m _ below hf ((Spec.applies_iff_loose hf).mp happ).1 ⟨rfl, State.Warmed39.refl s, rfl⟩ trivial
  refine ⟨n, _, h1, h2, h3, hpost _ _ _ _ _ _ ⟨Cond.after_iff.mpr rfl, Cond.after_iff.mpr (eq_i res_at (Term.int_eval (1)) rfl), trivial⟩ ⟨hq.1, hq.2.1, (hq.2.2.sift fun y hy => Or.inr (N y hy)).mono (by decide) (by decide)⟩⟩
theorem main_1_1 : Claimed_1_1 := comes_1 fun _ _ _ _ _ _ h hF => ⟨h.1, hF⟩
theorem main_1_2 : Claimed_1_2 := comes_1 fun _ _ _ _ _ _ h hF => ⟨h.2.1, hF⟩
end Jvm.Pilot.@@N@@
namespace Jvm.Pilot.@@N@@
open Jvm Jvm.ClassFile Sem Op Lib Jvm.Free Jvm.Stand Jvm.Pilot.@@N@@.Jvm.D
/-! MADE BY PROGRAM (witnessworld.py) out of the Statement's table words and the real class files: 13 classes; the members and pool entries that the words name. The judged class is class 1, her method 2. -/
namespace start1
open Jvm.ClassFile
def u (s : String) : CpInfo := .utf8 (stringToUtf16 s)
/-- a pool by its gaps: so many unusable entries, then the entry; so many at the end -/
def gap : Nat → List CpInfo → List CpInfo
  | 0, r => r
  | n + 1, r => .unusable :: gap n r
def poolList (es : List (Nat × CpInfo)) (last : Nat) : List CpInfo := es.foldr (fun e r => gap e.1 (e.2 :: r)) (gap last [])
def pool (es : List (Nat × CpInfo)) (last : Nat) : Array CpInfo := ⟨poolList es last⟩
def fileOf (pool : Array CpInfo) (this : Nat) (attrs : Array Attribute := #[]) (ms : Array MethodInfo := #[]) (fl : Nat := 33) (sup : Nat := 0) (ifs : Array Nat := #[]) (fds : Array FieldInfo := #[]) : ClassFile where
  minorVersion := 0
  majorVersion := 65
  constantPool := pool
  accessFlags := fl
  thisClass := this
  superClass := sup
  interfaces := ifs
  fields := fds
  methods := ms
  attributes := attrs
def plain (name : String) (sup : Option ClassId) : Class where
  name := name
  kind := .ordinary
  loader := none
  accessFlags := 33
  super := sup
  interfaces := #[]
  cf := none
  fields := #[]
  methods := #[]
  instanceTypes := #[]
  staticTypes := #[]
  resolved := #[]
  callSites := []
  init := .initialized
  statics := none
  mirror := none

def pool0 : Array CpInfo := pool [(5, u "<init>"), (0, u "()V"), (1, .class_ 10), (1, u "java/lang/Object")] 113

def k0c0 : Code := { maxStack := 0, maxLocals := 1, code := object_method_1_code, exceptionTable := #[], attributes := #[] }
def k0m0 : Method := { name := "<init>", desc := "()V", sig := { parameters := [], returnType := none }, accessFlags := 1, code := some k0c0 }
/-- java/lang/Object -/
def k0 : Class := { plain "java/lang/Object" none with
  accessFlags := 33
  interfaces := #[]
  cf := some (fileOf pool0 8 #[] #[{ accessFlags := 1, nameIndex := 5, descriptorIndex := 6, attributes := #[] }] 33 0 #[] #[])
  fields := #[]
  methods := #[k0m0]
  instanceTypes := #[]
  staticTypes := #[]
  resolved := Array.replicate 124 none
  statics := none }

def pool1 : Array CpInfo := pool [(2, .class_ 4), (1, u "java/lang/Object"), (0, u "<init>"), (0, u "()V"), (0, .class_ 8), (0, u "com/example/quantiscope/quantiscope/threshold/Bins"), (0, .methodref 7 10), (0, .nameAndType 5 11), (0, u "([J)V"), (0, .methodref 13 14), (0, .class_ 15), (0, .nameAndType 16 17), (0, u "com/example/quantiscope/quantiscope/threshold/BinsCountPinLaw"), (0, u "pick"), (0, u "(JIII)J"), (0, .methodref 7 19), (0, .nameAndType 20 21), (0, u "count"), (0, u "(II)J"), (3, u "law"), (0, u "(JJJJII)Z")] 4

def k1m0 : Method := { name := "<init>", desc := "()V", sig := { parameters := [], returnType := none }, accessFlags := 1, code := none }
def k1c1 : Code := { maxStack := 2, maxLocals := 5, code := method_2_code, exceptionTable := #[], attributes := #[] }
def k1m1 : Method := { name := "pick", desc := "(JIII)J", sig := { parameters := [.long, .int, .int, .int], returnType := some .long }, accessFlags := 10, code := some k1c1 }
def k1c2 : Code := { maxStack := 7, maxLocals := 16, code := code, exceptionTable := #[], attributes := #[] }
def k1m2 : Method := { name := "law", desc := "(JJJJII)Z", sig := { parameters := [.long, .long, .long, .long, .int, .int], returnType := some .boolean }, accessFlags := 9, code := some k1c2 }
/-- com/example/quantiscope/quantiscope/threshold/BinsCountPinLaw -/
def k1 : Class := { plain "com/example/quantiscope/quantiscope/threshold/BinsCountPinLaw" (some 0) with
  accessFlags := 49
  interfaces := #[]
  cf := some (fileOf pool1 13 #[] #[{ accessFlags := 1, nameIndex := 5, descriptorIndex := 6, attributes := #[] }, { accessFlags := 10, nameIndex := 16, descriptorIndex := 17, attributes := #[] }, { accessFlags := 9, nameIndex := 25, descriptorIndex := 26, attributes := #[] }] 49 2 #[] #[])
  fields := #[]
  methods := #[k1m0, k1m1, k1m2]
  instanceTypes := #[]
  staticTypes := #[]
  resolved := Array.replicate 31 none
  statics := none }

def pool2 : Array CpInfo := pool [(1, .methodref 2 3), (0, .class_ 4), (0, .nameAndType 5 6), (0, u "java/lang/Object"), (0, u "<init>"), (0, u "()V"), (0, .fieldref 8 9), (0, .class_ 10), (0, .nameAndType 11 12), (0, u "com/example/quantiscope/quantiscope/threshold/Bins"), (0, u "counts"), (0, u "[J"), (0, .fieldref 8 14), (0, .nameAndType 15 12), (0, u "sums"), (0, .fieldref 8 17), (0, .nameAndType 18 19), (0, u "squares"), (0, u "[D"), (25, u "(II)J"), (2, u "count"), (0, u "([J)V")] 33

def k2c0 : Code := { maxStack := 8, maxLocals := 3, code := prog_63_method_1_code, exceptionTable := #[], attributes := #[] }
def k2m0 : Method := { name := "<init>", desc := "([J)V", sig := { parameters := [(.array .long)], returnType := none }, accessFlags := 0, code := some k2c0 }
def k2c1 : Code := { maxStack := 4, maxLocals := 3, code := prog_63_method_6_code, exceptionTable := #[], attributes := #[] }
def k2m1 : Method := { name := "count", desc := "(II)J", sig := { parameters := [.int, .int], returnType := some .long }, accessFlags := 0, code := some k2c1 }
/-- com/example/quantiscope/quantiscope/threshold/Bins -/
def k2 : Class := { plain "com/example/quantiscope/quantiscope/threshold/Bins" (some 0) with
  accessFlags := 48
  interfaces := #[]
  cf := some (fileOf pool2 8 #[] #[{ accessFlags := 0, nameIndex := 5, descriptorIndex := 49, attributes := #[] }, { accessFlags := 0, nameIndex := 48, descriptorIndex := 45, attributes := #[] }] 48 2 #[] #[{ accessFlags := 18, nameIndex := 11, descriptorIndex := 12, attributes := #[] }, { accessFlags := 18, nameIndex := 15, descriptorIndex := 12, attributes := #[] }, { accessFlags := 18, nameIndex := 18, descriptorIndex := 19, attributes := #[] }])
  fields := #[{ name := "counts", type := (.array .long), accessFlags := 18, slot := 0, constantValue := 0 }, { name := "sums", type := (.array .long), accessFlags := 18, slot := 1, constantValue := 0 }, { name := "squares", type := (.array .double), accessFlags := 18, slot := 2, constantValue := 0 }]
  methods := #[k2m0, k2m1]
  instanceTypes := #[(.array .long), (.array .long), (.array .double)]
  staticTypes := #[]
  resolved := Array.replicate 83 none
  statics := none }

def pool3 : Array CpInfo := pool [(1, u "java/lang/Cloneable"), (0, .class_ 1), (0, u "java/lang/Object"), (0, .class_ 3)] 3

/-- java/lang/Cloneable -/
def k3 : Class := { plain "java/lang/Cloneable" (some 0) with
  accessFlags := 1537
  interfaces := #[]
  cf := some (fileOf pool3 2 #[] #[] 1537 4 #[] #[])
  fields := #[]
  methods := #[]
  instanceTypes := #[]
  staticTypes := #[]
  resolved := Array.replicate 8 none
  statics := none }

def pool4 : Array CpInfo := pool [(1, u "java/io/Serializable"), (0, .class_ 1), (0, u "java/lang/Object"), (0, .class_ 3)] 3

/-- java/io/Serializable -/
def k4 : Class := { plain "java/io/Serializable" (some 0) with
  accessFlags := 1537
  interfaces := #[]
  cf := some (fileOf pool4 2 #[] #[] 1537 4 #[] #[])
  fields := #[]
  methods := #[]
  instanceTypes := #[]
  staticTypes := #[]
  resolved := Array.replicate 8 none
  statics := none }

/-- the primitive byte -/
def k5 : Class := { plain "byte" none with kind := .primitive 'B', accessFlags := 0x411 }
/-- [B -/
def k6 : Class := { plain "[B" (some 0) with kind := .array 5 .byte, interfaces := #[3, 4], accessFlags := 1041 }

/-- the primitive double -/
def k7 : Class := { plain "double" none with kind := .primitive 'D', accessFlags := 0x411 }
/-- [D -/
def k8 : Class := { plain "[D" (some 0) with kind := .array 7 .double, interfaces := #[3, 4], accessFlags := 1041 }

/-- the primitive int -/
def k9 : Class := { plain "int" none with kind := .primitive 'I', accessFlags := 0x411 }
/-- [I -/
def k10 : Class := { plain "[I" (some 0) with kind := .array 9 .int, interfaces := #[3, 4], accessFlags := 1041 }

/-- the primitive long -/
def k11 : Class := { plain "long" none with kind := .primitive 'J', accessFlags := 0x411 }
/-- [J -/
def k12 : Class := { plain "[J" (some 0) with kind := .array 11 .long, interfaces := #[3, 4], accessFlags := 1041 }

def heap : Heap := #[]
def classes : Array Class := #[k0, k1, k2, k3, k4, k5, k6, k7, k8, k9, k10, k11, k12]
def interned : List (Array UInt16 × Addr) := []
def slotsUsed : Nat := 0
def theMethod : MethodId := ⟨1, 2⟩
def args0 : Array Value := #[.long 5, .long 6, .long 5, .long 6, .int 5, .int 5]
def aboutOver (below : List Frame) : State where
  vm := { classes := classes, interned := interned.toArray }
  heap := heap
  slotsUsed := slotsUsed
  threads := #[{ frames := .invoking theMethod args0 :: below }]
def below0 : List Frame := [.native { method := ⟨0, 0⟩, args := #[] }]
def about1 : State := aboutOver below0
def p0 : Program := .bare "" "" ""
def e0 : Env := launch0.env 0 0 0
theorem w_frames : about1.frames = Frame.invoking theMethod args0 :: below0 := rfl
set_option maxRecDepth 65536 in
theorem w_args : argsFit about1.vm theMethod args0 = true := by decide +kernel
set_option maxRecDepth 65536 in
theorem w_heap : heapFits about1 = true := by decide +kernel
set_option maxRecDepth 65536 in
theorem w_runnable : about1.curStatus? = some .runnable := by decide +kernel
set_option maxRecDepth 65536 in
theorem w_alone : about1.alone = true := by decide +kernel
set_option maxRecDepth 65536 in
theorem w_named : about1.methodNamed? x = some theMethod := by decide +kernel
set_option maxRecDepth 65536 in
theorem w_hears : about1.hears theMethod below0 = true := by decide +kernel
set_option maxRecDepth 65536 in
theorem w_ripe : about1.ripe theMethod args0 below0 = true := by decide +kernel
theorem w_running : about1.status = .running := rfl
set_option maxRecDepth 65536 in
theorem w_room : about1.hasRoom e0.platform room_1 = true :=
  launch0.hasRoom_least _ room_1 (by decide +kernel) (by decide +kernel) (by decide +kernel) (by decide +kernel) (by decide +kernel) (by decide +kernel)
theorem allAtoms_all (ts : List Jvm.Cond) (a : Array Jvm.Value) (st : Jvm.State) : (allAtoms ts).before a st = ts.all (fun c => c.before a st) := by
  induction ts with
  | nil => rfl
  | cons c t ih =>
    show (Jvm.Cond.and c (allAtoms t)).before a st = _
    rw [Jvm.Cond.before_and, ih, List.all_cons]
def words1 : List Jvm.Cond := Jvm.Cond.code x code maxLocals ret :: tables_1
/-- a 'code' word, met by the world's own term for the bytes: nothing is compared byte by byte -/
theorem code_word {y : MethodName} {bytes : ByteArray} {mx : Nat} {rt : Option FieldType} {a : Array Value} {s : State} {m : MethodId} {meth : Method} {c : Code} (h1 : s.methodNamed? y = some m) (h2 : s.vm.method? m = some meth) (h3 : meth.code = some c) (h4 : c.code = bytes)
    (h5 : (c.maxLocals == mx && c.exceptionTable.isEmpty && decide (c.maxStack ≤ mostOperands) && decide (meth.sig.returnType = rt) && !meth.locks && decide (parseMethodDescriptor y.desc = some meth.sig)) = true) : (Jvm.Cond.code y bytes mx rt).before a s = true := by
  simp only [Bool.and_eq_true, beq_iff_eq, Bool.not_eq_true', decide_eq_true_eq] at h5
  obtain ⟨⟨⟨⟨⟨g1, g2⟩, g3⟩, g4⟩, g5⟩, g6⟩ := h5
  simp [Cond.before, Cond.holds, Cond.value, h1, h2, h3, h4, g1, g2, g3, g4, g5, g6]
def isCode : Jvm.Cond → Bool
  | .code _ _ _ _ => true
  | _ => false
theorem all_split {L : List Jvm.Cond} {P : Jvm.Cond → Bool} (h1 : L.all (fun c => isCode c || P c) = true) (h2 : ∀ c ∈ L.filter isCode, P c = true) : L.all P = true := by
  refine List.all_eq_true.mpr fun c hc => ?_
  have h := List.all_eq_true.mp h1 c hc
  rcases Bool.eq_false_or_eq_true (isCode c) with hi | hi
  · exact h2 c (List.mem_filter.mpr ⟨hc, hi⟩)
  · simpa [hi] using h
set_option maxRecDepth 65536 in
theorem w_c0 : (Jvm.Cond.code x code maxLocals ret).before args0 about1 = true := code_word (m := ⟨1, 2⟩) (meth := k1m2) (c := k1c2) (by decide +kernel) rfl rfl rfl (by decide +kernel)
set_option maxRecDepth 65536 in
theorem w_c1 : (Jvm.Cond.code ({ cls := "com/example/quantiscope/quantiscope/threshold/Bins", name := "<init>", desc := "([J)V" } : Jvm.MethodName) prog_63_method_1_code (3 : Nat) (Option.none : Option Jvm.ClassFile.FieldType)).before args0 about1 = true := code_word (m := ⟨2, 0⟩) (meth := k2m0) (c := k2c0) (by decide +kernel) rfl rfl rfl (by decide +kernel)
set_option maxRecDepth 65536 in
theorem w_c2 : (Jvm.Cond.code ({ cls := "java/lang/Object", name := "<init>", desc := "()V" } : Jvm.MethodName) object_method_1_code (1 : Nat) (Option.none : Option Jvm.ClassFile.FieldType)).before args0 about1 = true := code_word (m := ⟨0, 0⟩) (meth := k0m0) (c := k0c0) (by decide +kernel) rfl rfl rfl (by decide +kernel)
set_option maxRecDepth 65536 in
theorem w_c3 : (Jvm.Cond.code ({ cls := "com/example/quantiscope/quantiscope/threshold/BinsCountPinLaw", name := "pick", desc := "(JIII)J" } : Jvm.MethodName) method_2_code (5 : Nat) (Option.some Jvm.ClassFile.FieldType.long)).before args0 about1 = true := code_word (m := ⟨1, 1⟩) (meth := k1m1) (c := k1c1) (by decide +kernel) rfl rfl rfl (by decide +kernel)
set_option maxRecDepth 65536 in
theorem w_c4 : (Jvm.Cond.code ({ cls := "com/example/quantiscope/quantiscope/threshold/Bins", name := "count", desc := "(II)J" } : Jvm.MethodName) prog_63_method_6_code (3 : Nat) (Option.some Jvm.ClassFile.FieldType.long)).before args0 about1 = true := code_word (m := ⟨2, 1⟩) (meth := k2m1) (c := k2c1) (by decide +kernel) rfl rfl rfl (by decide +kernel)
def codes1 : List Jvm.Cond := [Jvm.Cond.code x code maxLocals ret, Jvm.Cond.code ({ cls := "com/example/quantiscope/quantiscope/threshold/Bins", name := "<init>", desc := "([J)V" } : Jvm.MethodName) prog_63_method_1_code (3 : Nat) (Option.none : Option Jvm.ClassFile.FieldType), Jvm.Cond.code ({ cls := "java/lang/Object", name := "<init>", desc := "()V" } : Jvm.MethodName) object_method_1_code (1 : Nat) (Option.none : Option Jvm.ClassFile.FieldType), Jvm.Cond.code ({ cls := "com/example/quantiscope/quantiscope/threshold/BinsCountPinLaw", name := "pick", desc := "(JIII)J" } : Jvm.MethodName) method_2_code (5 : Nat) (Option.some Jvm.ClassFile.FieldType.long), Jvm.Cond.code ({ cls := "com/example/quantiscope/quantiscope/threshold/Bins", name := "count", desc := "(II)J" } : Jvm.MethodName) prog_63_method_6_code (3 : Nat) (Option.some Jvm.ClassFile.FieldType.long)]
set_option maxRecDepth 65536 in
theorem codes_eq : words1.filter isCode = codes1 := rfl
theorem w_codes : ∀ c ∈ words1.filter isCode, c.before args0 about1 = true := by
  rw [codes_eq]
  intro c hc
  simp only [codes1, List.mem_cons, List.not_mem_nil, or_false] at hc
  rcases hc with rfl | rfl | rfl | rfl | rfl
  · exact w_c0
  · exact w_c1
  · exact w_c2
  · exact w_c3
  · exact w_c4
set_option maxRecDepth 65536 in
theorem w_t1 : (words1.take 24).all (fun c => isCode c || c.before args0 about1) = true := by decide +kernel
set_option maxRecDepth 65536 in
theorem w_t2 : (words1.drop 24).all (fun c => isCode c || c.before args0 about1) = true := by decide +kernel
theorem w_tables : (allAtoms (Jvm.Cond.code x code maxLocals ret :: tables_1)).before args0 about1 = true := by
  rw [allAtoms_all]
  show words1.all (fun c => c.before args0 about1) = true
  refine all_split ?_ w_codes
  rw [← List.take_append_drop 24 words1, List.all_append, w_t1, w_t2]
  rfl
set_option maxRecDepth 65536 in
theorem w_case : (Jvm.Cond.and given_1 narrow_1).before args0 about1 = true := by decide +kernel
theorem w_applies : (headSpec (Jvm.Cond.code x code maxLocals ret :: tables_1) room_1).applies x e0.platform about1 = true :=
  (Spec.applies_iff w_frames).mpr ⟨w_running, w_runnable, w_alone, w_named, w_hears, w_ripe, w_room, w_tables⟩
theorem atStart : AtStart classFile x code maxLocals ret World_1 tables_1 room_1 Calls_1 rest_1 Pre_1 launch0 p0 e0 about1 theMethod args0 below0 :=
  ⟨lists_1, trivial, launch0.admits_env _ _ _, launch0.least_env, fairChoices_fair.cas, fairChoices_fair.clock, w_frames, w_args, w_heap, w_applies, trivial, trivial, w_case⟩
end start1
theorem witness_1 : WitnessClaimed_1 := ⟨start1.p0, start1.e0, start1.about1, start1.theMethod, start1.args0, start1.below0, start1.atStart⟩
end Jvm.Pilot.@@N@@
