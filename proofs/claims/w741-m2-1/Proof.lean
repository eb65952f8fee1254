import JvmDerived
import JvmDerived.Pilot.@@N@@Statement
import JvmDerived.Pilot.@@N@@Code
set_option linter.unusedVariables false
set_option linter.unusedSimpArgs false
@@BLOCK:NumsL.lean.txt@@
namespace Jvm.RoadKit
open Sem ClassFile Op Lib Jvm.Stand Jvm.Free Jvm.LawKit
section New
variable {p : Program} {l : Launch} {e : Env} {R : Room} {s : State} {m : MethodId} {args : Array Value} {below : List Frame} {meth : Method} {c : Code} {T : State} {locs : List Loc} {cells slots : Nat}
theorem retI (X : Stand p l e R s m args below meth c T locs cells slots) (hx : p.tables.exec = Jvm.exec) {pc : Nat} {Ls : Array Slot} {z : Int32} {rest : List Value} (hret : meth.sig.returnType = some .int) (hd : decode c.code pc = .ok (.ireturn, 1)) {fs : List Frame}
    (hl : ∀ (f : JFrame) (acts : List Action), f.method = m → f.locked = none → f.entered = [] → (doReturn e (T.setTop f) acts (some (.int z))).1 = T.setFrames fs) : Steps p.tables e below (T.setTop (mkF m pc Ls (.int z :: rest))) (T.setFrames fs) := by
  have hm' : T.vm.method? m = some meth := X.method'
  have hn : narrow .int (.int z) = .int z := rfl
  show Steps p.tables e below (T.setTop { method := m, pc := pc, locals := Ls, stack := _ :: rest, locked := none }) _
  jvm_step X.here [X.here.top, hx, hd, hm', hret, hn]
  first | (intro acts; rw [hl _ acts rfl rfl rfl]) | rw [hl _ _ rfl rfl rfl]
  exact Steps.refl _
end New
end Jvm.RoadKit
namespace Jvm.Pilot.@@N@@
open Jvm Jvm.ClassFile Sem Op Lib Jvm.Free Jvm.Stand Jvm.LawKit Jvm.RoadKit Bundle Jvm.Pilot.@@N@@.Jvm.D
theorem own_lt {i n : Nat} (h : i < n) (hn : n ≤ 63) : Int32.ofNat i < Int32.ofNat n := by
  rw [Int32.lt_iff_toInt_lt, Int32.toInt_ofNat_of_lt (by omega), Int32.toInt_ofNat_of_lt (by omega)]
  omega
theorem own_nlt {i n : Nat} (h : n ≤ i) (hn : i ≤ 63) : ¬ Int32.ofNat i < Int32.ofNat n := by
  rw [Int32.lt_iff_toInt_lt, Int32.toInt_ofNat_of_lt (by omega), Int32.toInt_ofNat_of_lt (by omega)]
  omega
theorem own_nn {n : Nat} (hn : n ≤ 63) : ¬ Int32.ofNat n < 0 := by
  rw [Int32.lt_iff_toInt_lt, Int32.toInt_ofNat_of_lt (by omega), show (0 : Int32).toInt = 0 from rfl]
  omega
theorem own_n32 {n : Nat} (hn : n ≤ 63) : (Int32.ofNat n).toNatClampNeg = n := by
  rw [Int32.toNatClampNeg, Int32.toInt_ofNat_of_lt (by omega)]; rfl
theorem own_one (i : Nat) : Int32.ofNat i + (1 : Int32) = Int32.ofNat (i + 1) := (Int32.ofNat_add i 1).symm
theorem own_mask (x n : Int32) (h : n = (x &&& (63 : Int32))) : ∃ N : Nat, N ≤ 63 ∧ n = Int32.ofNat N := by
  subst h
  refine ⟨(x &&& 63).toBitVec.toNat, ?_, ?_⟩
  · simp only [Int32.toBitVec_and, BitVec.toNat_and]
    exact Nat.and_le_right
  · apply Int32.toBitVec_inj.mp
    show _ = BitVec.ofNat 32 _
    rw [BitVec.ofNat_toNat]; simp
theorem own_inb {cl : Cell} {i N : Nat} (hs : cl.slots.size = N) (hi : i < N) (hN : N ≤ 63) : ¬ (Int32.ofNat i < 0 ∨ cl.slots.size ≤ (Int32.ofNat i).toNatClampNeg) := by
  rw [hs, own_n32 (by omega)]
  exact fun q => q.elim (own_nn (by omega)) (fun q => by omega)
theorem own_len {cl : Cell} {N : Nat} (hs : cl.slots.size = N) (hN : N ≤ 63) : cl.slots.size.toInt32 = Int32.ofNat N := by rw [hs]
/-- one more place filled -/
theorem own_more {cl cl' : Cell} {i N : Nat} (hs : cl.slots.size = N) (hi : i < N) (hN : N ≤ 63) (hat : ∀ j, j < i → cl.slots[j]? = some (.int (Int32.ofNat j))) (h : cl' = cl.setSlot (Int32.ofNat i).toNatClampNeg (.int (Int32.ofNat i))) : cl'.slots.size = N ∧ ∀ j, j < i + 1 → cl'.slots[j]? = some (.int (Int32.ofNat j)) := by
  rw [own_n32 (by omega)] at h
  refine ⟨by rw [h, sz_set]; exact hs, fun j hj => ?_⟩
  rw [h]
  show (cl.slots.setIfInBounds i _)[j]? = _
  by_cases e : j = i
  · subst e; rw [Array.getElem?_setIfInBounds_self, if_pos (by omega)]
  · rw [Array.getElem?_setIfInBounds_ne (Ne.symm e)]; exact hat j (by omega)
theorem own_sz {k : ClassId} {cl : Cell} {N : Nat} (hN : N ≤ 63) (h : cl = newA k .int (Int32.ofNat N)) : cl.slots.size = N := by rw [h, sz_new, own_n32 hN]
theorem own_at {cl : Cell} {N : Nat} (hN : N ≤ 63) (hat : ∀ j, j < N → cl.slots[j]? = some (.int (Int32.ofNat j))) {j : Nat} (hj : j < N) : cl.slots[(Int32.ofNat j).toNatClampNeg]? = some (.int (Int32.ofNat j)) := by rw [own_n32 (by omega)]; exact hat j hj
theorem own_probe (x p : Int32) {N : Nat} (hN : N ≤ 63) (h0 : 0 < N) (h : p = ((x &&& (2147483647 : Int32)) % Int32.ofNat N)) : ∃ j, j < N ∧ p = Int32.ofNat j := by
  have e : (Int32.ofNat N).toInt = (N : Int) := Int32.toInt_ofNat_of_lt (by omega)
  have h1 := Jvm.Kit.i32_mask x 2147483647 (k := 31) (by decide) (by decide)
  have h2 : 0 ≤ (x &&& (2147483647 : Int32)).toInt := by rw [h1]; exact Int.emod_nonneg _ (by decide)
  have h3 : p.toInt = (x &&& (2147483647 : Int32)).toInt % (N : Int) := by rw [h, Jvm.Kit.i32_rem_nonneg h2, e]
  have h4 : 0 ≤ p.toInt := by rw [h3]; exact Int.emod_nonneg _ (by omega)
  have h5 : p.toInt < N := by rw [h3]; exact Int.emod_lt_of_pos _ (by omega)
  refine ⟨p.toInt.toNat, by omega, Int32.toInt_inj.mp ?_⟩
  rw [Int32.toInt_ofNat_of_lt (by omega)]; omega
theorem own_nz {N : Nat} (hN : N ≤ 63) (h0 : 0 < N) : Int32.ofNat N ≠ 0 := fun q => by
  have := congrArg Int32.toInt q
  rw [Int32.toInt_ofNat_of_lt (by omega), show (0 : Int32).toInt = 0 from rfl] at this; omega
theorem own_pos {N : Nat} (hN : N ≤ 63) (h0 : 0 < N) : (0 : Int32) < Int32.ofNat N := by
  rw [Int32.lt_iff_toInt_lt, Int32.toInt_ofNat_of_lt (by omega), show (0 : Int32).toInt = 0 from rfl]; omega
theorem own_pred {N : Nat} (h0 : 0 < N) : Int32.ofNat N - (1 : Int32) = Int32.ofNat (N - 1) := by
  have : N = (N - 1) + 1 := by omega
  rw [this, ← own_one, Int32.add_sub_cancel]; rfl

theorem d1_6 : decode prog_12_method_2_code 6 = .ok (.iload_n 2, 1) := by decide +kernel
theorem d1_7 : decode prog_12_method_2_code 7 = .ok (.iload_n 0, 1) := by decide +kernel
theorem d1_8 : decode prog_12_method_2_code 8 = .ok (.if_icmp .ge 13, 3) := by decide +kernel
theorem d1_11 : decode prog_12_method_2_code 11 = .ok (.aload_n 1, 1) := by decide +kernel
theorem d1_12 : decode prog_12_method_2_code 12 = .ok (.iload_n 2, 1) := by decide +kernel
theorem d1_13 : decode prog_12_method_2_code 13 = .ok (.iload_n 2, 1) := by decide +kernel
theorem d1_14 : decode prog_12_method_2_code 14 = .ok (.iastore, 1) := by decide +kernel
theorem d1_15 : decode prog_12_method_2_code 15 = .ok (.iinc 2 1, 3) := by decide +kernel
theorem d1_18 : decode prog_12_method_2_code 18 = .ok (.goto (-12), 3) := by decide +kernel
section
variable {p : Program} {l : Launch} {e : Env} {R : Room} {s : State} {m : MethodId} {args : Array Value} {below : List Frame} {meth : Method} {c : Code} {Z : State} {a0 : Array Value}
set_option maxRecDepth 65536 in
set_option maxHeartbeats 40000000 in
theorem tn1 (N : Nat) (b : Addr) (i : Nat) (cl : Cell) {T0 : State} {locs : List Loc} {cells slots : Nat} {h0 : Heap} {n0 : Nat} (X0 : Stand p l e R s m args below meth c T0 locs cells slots) (hx : p.tables.exec = Jvm.exec) (hZ : Z.Warmed39 s.vm) (hw : ∀ d ∈ tables_1, d.before a0 Z = true) (hby : c.code = prog_12_method_2_code) (hml : c.maxLocals = 3) (hown : s.vm.findClass "com/example/graded_flow/gradedflow/microscopic/Lanes" = some m.cls) (e0 : T0.heap = h0) (N0 : Fr n0 locs) (Z0 : n0 ≤ h0.size) (Ar_b : Arr Z h0 b cl .int) (g_b : n0 ≤ b) (hN : N ≤ 63) (hi : i < N) (hs : cl.slots.size = N) :
    ∃ (T' : State) (h' : Heap) (locs' : List Loc) (cl' : Cell), Stand p l e R s m args below meth c T' locs' cells slots ∧ T'.heap = h' ∧ Fr n0 locs' ∧ n0 ≤ h'.size ∧ Keep h0 h' [b] ∧ (Arr Z h' b cl' .int) ∧ (cl' = cl.setSlot (Int32.ofNat i).toNatClampNeg (.int (Int32.ofNat i))) ∧ ∀ t, Steps p.tables e below (T'.setTop (mkF m 6 #[.val (.int (Int32.ofNat N)), .val (.ref b), .val (.int ((Int32.ofNat i) + (1 : Int32)))] [])) t → Steps p.tables e below (T0.setTop (mkF m 6 #[.val (.int (Int32.ofNat N)), .val (.ref b), .val (.int (Int32.ofNat i))] [])) t := by
  have J1 : ∀ t, Steps p.tables e below (T0.setTop (mkF m 14 #[.val (.int (Int32.ofNat N)), .val (.ref b), .val (.int (Int32.ofNat i))] [(.int (Int32.ofNat i)), (.int (Int32.ofNat i)), (.ref b)])) t → Steps p.tables e below (T0.setTop (mkF m 6 #[.val (.int (Int32.ofNat N)), .val (.ref b), .val (.int (Int32.ofNat i))] [])) t := fun t k => id (by
      show Steps p.tables e below (T0.setTop (mkF m 6 #[.val (.int (Int32.ofNat N)), .val (.ref b), .val (.int (Int32.ofNat i))] [])) _
      refine XS.iloadN X0.here hx rfl (hb hby d1_6) rfl ?_
      show Steps p.tables e below (T0.setTop (mkF m 7 #[.val (.int (Int32.ofNat N)), .val (.ref b), .val (.int (Int32.ofNat i))] [(.int (Int32.ofNat i))])) _
      refine XS.iloadN X0.here hx rfl (hb hby d1_7) rfl ?_
      show Steps p.tables e below (T0.setTop (mkF m 8 #[.val (.int (Int32.ofNat N)), .val (.ref b), .val (.int (Int32.ofNat i))] [(.int (Int32.ofNat N)), (.int (Int32.ofNat i))])) _
      refine XS.icmpNo X0.here hx rfl (hb hby d1_8) rfl (tlt (own_lt hi hN)).2.1 ?_
      show Steps p.tables e below (T0.setTop (mkF m 11 #[.val (.int (Int32.ofNat N)), .val (.ref b), .val (.int (Int32.ofNat i))] [])) _
      refine XS.aloadN X0.here hx rfl (hb hby d1_11) rfl rfl ?_
      show Steps p.tables e below (T0.setTop (mkF m 12 #[.val (.int (Int32.ofNat N)), .val (.ref b), .val (.int (Int32.ofNat i))] [(.ref b)])) _
      refine XS.iloadN X0.here hx rfl (hb hby d1_12) rfl ?_
      show Steps p.tables e below (T0.setTop (mkF m 13 #[.val (.int (Int32.ofNat N)), .val (.ref b), .val (.int (Int32.ofNat i))] [(.int (Int32.ofNat i)), (.ref b)])) _
      refine XS.iloadN X0.here hx rfl (hb hby d1_13) rfl ?_
      exact k)
  obtain ⟨T2, h2, X2, e2, W2, st2⟩ := stI X0 hx hZ e0 Ar_b (j := (Int32.ofNat i)) (own_inb hs hi hN) (g := (mkF m 14 #[.val (.int (Int32.ofNat N)), .val (.ref b), .val (.int (Int32.ofNat i))] [(.int (Int32.ofNat i)), (.int (Int32.ofNat i)), (.ref b)])) rfl rfl (hb hby d1_14)
  have J3 : ∀ t, Steps p.tables e below (T2.setTop (mkF m 15 #[.val (.int (Int32.ofNat N)), .val (.ref b), .val (.int (Int32.ofNat i))] [])) t → Steps p.tables e below (T0.setTop (mkF m 6 #[.val (.int (Int32.ofNat N)), .val (.ref b), .val (.int (Int32.ofNat i))] [])) t := fun t k => J1 t (st2 t k)
  have Z4 : n0 ≤ h2.size := Nat.le_trans Z0 (Keep.of_wr W2).1
  have KK5 : Keep h0 h2 [b] := (Keep.refl h0 [b]).wr W2 (Or.inl (List.mem_of_getElem? (i := 0) rfl))
  have N6 := Fr.snoc X2 N0 g_b
  obtain ⟨cl2, hcl2⟩ : ∃ z, z = cl.setSlot ((Int32.ofNat i)).toNatClampNeg (.int (Int32.ofNat i)) := ⟨_, rfl⟩
  have Aw2 : Arr Z h2 b cl2 .int := by rw [hcl2]; exact Ar_b.same W2
  have J7 : ∀ t, Steps p.tables e below (T2.setTop (mkF m 6 #[.val (.int (Int32.ofNat N)), .val (.ref b), .val (.int ((Int32.ofNat i) + (1 : Int32)))] [])) t → Steps p.tables e below (T0.setTop (mkF m 6 #[.val (.int (Int32.ofNat N)), .val (.ref b), .val (.int (Int32.ofNat i))] [])) t := fun t k => J3 t (by
      show Steps p.tables e below (T2.setTop (mkF m 15 #[.val (.int (Int32.ofNat N)), .val (.ref b), .val (.int (Int32.ofNat i))] [])) _
      refine XS.iinc X2.here hx rfl (hb hby d1_15) rfl (l' := #[.val (.int (Int32.ofNat N)), .val (.ref b), .val (.int ((Int32.ofNat i) + (1 : Int32)))]) rfl ?_
      show Steps p.tables e below (T2.setTop (mkF m 18 #[.val (.int (Int32.ofNat N)), .val (.ref b), .val (.int ((Int32.ofNat i) + (1 : Int32)))] [])) _
      refine XS.goto X2.here hx rfl (pc0 := 18) (pc' := 6) rfl (hb hby d1_18) (by decide) (by decide) ?_
      exact k)
  exact ⟨T2, _, _, cl2, X2, e2, N6, Z4, KK5, Aw2, hcl2, J7⟩
end
section
variable {p : Program} {l : Launch} {e : Env} {R : Room} {s : State} {m : MethodId} {args : Array Value} {below : List Frame} {meth : Method} {c : Code} {Z : State} {a0 : Array Value}
set_option maxRecDepth 65536 in
set_option maxHeartbeats 40000000 in
theorem lv1 (N : Nat) (b : Addr) {T0 : State} {locs : List Loc} {cells slots : Nat} {h0 : Heap} {n0 : Nat} (X0 : Stand p l e R s m args below meth c T0 locs cells slots) (hx : p.tables.exec = Jvm.exec) (hZ : Z.Warmed39 s.vm) (hw : ∀ d ∈ tables_1, d.before a0 Z = true) (hby : c.code = prog_12_method_2_code) (hml : c.maxLocals = 3) (hown : s.vm.findClass "com/example/graded_flow/gradedflow/microscopic/Lanes" = some m.cls) (e0 : T0.heap = h0) (N0 : Fr n0 locs) (Z0 : n0 ≤ h0.size) (hN : N ≤ 63) :
    ∃ (T' : State) (h' : Heap) (locs' : List Loc), Stand p l e R s m args below meth c T' locs' cells slots ∧ T'.heap = h' ∧ Fr n0 locs' ∧ n0 ≤ h'.size ∧ h' = h0 ∧ ∀ t, Steps p.tables e below (T'.setTop (mkF m 21 #[.val (.int (Int32.ofNat N)), .val (.ref b), .val (.int (Int32.ofNat N))] [])) t → Steps p.tables e below (T0.setTop (mkF m 6 #[.val (.int (Int32.ofNat N)), .val (.ref b), .val (.int (Int32.ofNat N))] [])) t := by
  have J1 : ∀ t, Steps p.tables e below (T0.setTop (mkF m 21 #[.val (.int (Int32.ofNat N)), .val (.ref b), .val (.int (Int32.ofNat N))] [])) t → Steps p.tables e below (T0.setTop (mkF m 6 #[.val (.int (Int32.ofNat N)), .val (.ref b), .val (.int (Int32.ofNat N))] [])) t := fun t k => id (by
      show Steps p.tables e below (T0.setTop (mkF m 6 #[.val (.int (Int32.ofNat N)), .val (.ref b), .val (.int (Int32.ofNat N))] [])) _
      refine XS.iloadN X0.here hx rfl (hb hby d1_6) rfl ?_
      show Steps p.tables e below (T0.setTop (mkF m 7 #[.val (.int (Int32.ofNat N)), .val (.ref b), .val (.int (Int32.ofNat N))] [(.int (Int32.ofNat N))])) _
      refine XS.iloadN X0.here hx rfl (hb hby d1_7) rfl ?_
      show Steps p.tables e below (T0.setTop (mkF m 8 #[.val (.int (Int32.ofNat N)), .val (.ref b), .val (.int (Int32.ofNat N))] [(.int (Int32.ofNat N)), (.int (Int32.ofNat N))])) _
      refine XS.icmpYes X0.here hx rfl (pc0 := 8) (pc' := 21) rfl (hb hby d1_8) rfl (flt Int32.lt_irrefl).2.1 (by decide) (by decide) ?_
      exact k)
  exact ⟨T0, _, _, X0, e0, N0, Z0, rfl, J1⟩
end
section
variable {p : Program} {l : Launch} {e : Env} {R : Room} {s : State} {m : MethodId} {args : Array Value} {below : List Frame} {meth : Method} {c : Code} {Z : State} {a0 : Array Value}
theorem loop1 {cells slots : Nat} {n0 : Nat} (N : Nat) (b : Addr) (hN : N ≤ 63) (gb : n0 ≤ b) (hx : p.tables.exec = Jvm.exec) (hZ : Z.Warmed39 s.vm) (hw : ∀ d ∈ tables_1, d.before a0 Z = true) (hby : c.code = prog_12_method_2_code) (hml : c.maxLocals = 3) (hown : s.vm.findClass "com/example/graded_flow/gradedflow/microscopic/Lanes" = some m.cls) :
    ∀ (k i : Nat) (cl : Cell) (T0 : State) (locs : List Loc) (h0 : Heap), i + k = N → Stand p l e R s m args below meth c T0 locs cells slots → T0.heap = h0 → Fr n0 locs → n0 ≤ h0.size → Arr Z h0 b cl .int → cl.slots.size = N → (∀ j, j < i → cl.slots[j]? = some (.int (Int32.ofNat j))) →
      ∃ (T' : State) (h' : Heap) (locs' : List Loc) (cl' : Cell), Stand p l e R s m args below meth c T' locs' cells slots ∧ T'.heap = h' ∧ Fr n0 locs' ∧ n0 ≤ h'.size ∧ Keep h0 h' [b] ∧ Arr Z h' b cl' .int ∧ cl'.slots.size = N ∧ (∀ j, j < N → cl'.slots[j]? = some (.int (Int32.ofNat j))) ∧
        ∀ t, Steps p.tables e below (T'.setTop (mkF m 21 #[.val (.int (Int32.ofNat N)), .val (.ref b), .val (.int (Int32.ofNat N))] [])) t → Steps p.tables e below (T0.setTop (mkF m 6 #[.val (.int (Int32.ofNat N)), .val (.ref b), .val (.int (Int32.ofNat i))] [])) t := by
  intro k
  induction k with
  | zero =>
    intro i cl T0 locs h0 hi X0 e0 N0 Z0 A hs hat
    have hi' : i = N := by omega
    subst hi'
    obtain ⟨T1, h1, l1, X1, e1, N1, Z1, q1, st1⟩ := lv1 i b X0 hx hZ hw hby hml hown e0 N0 Z0 hN
    rw [q1] at e1
    exact ⟨T1, h0, l1, cl, X1, e1, N1, Z0, Keep.refl _ _, A, hs, hat, st1⟩
  | succ k ih =>
    intro i cl T0 locs h0 hi X0 e0 N0 Z0 A hs hat
    obtain ⟨T1, h1, l1, cl1, X1, e1, N1, Z1, K1, A1, hcl1, st1⟩ := tn1 N b i cl X0 hx hZ hw hby hml hown e0 N0 Z0 A gb hN (by omega) hs
    obtain ⟨hs1, hat1⟩ := own_more hs (by omega) hN hat hcl1
    obtain ⟨T2, h2, l2, cl2, X2, e2, N2, Z2, K2, A2, hs2, hat2, st2⟩ := ih (i + 1) cl1 T1 l1 h1 (by omega) X1 e1 N1 Z1 A1 hs1 hat1
    refine ⟨T2, h2, l2, cl2, X2, e2, N2, Z2, K1.trans K2 (fun x hx => Or.inl hx), A2, hs2, hat2, fun t k => st1 t ?_⟩
    rw [own_one]
    exact st2 t k
end
theorem d1_0 : decode prog_12_method_2_code 0 = .ok (.iload_n 0, 1) := by decide +kernel
theorem d1_1 : decode prog_12_method_2_code 1 = .ok (.newarray .int, 2) := by decide +kernel
theorem d1_3 : decode prog_12_method_2_code 3 = .ok (.astore_n 1, 1) := by decide +kernel
theorem d1_4 : decode prog_12_method_2_code 4 = .ok (.iconst 0, 1) := by decide +kernel
theorem d1_5 : decode prog_12_method_2_code 5 = .ok (.istore_n 2, 1) := by decide +kernel
theorem d1_21 : decode prog_12_method_2_code 21 = .ok (.aload_n 1, 1) := by decide +kernel
theorem d1_22 : decode prog_12_method_2_code 22 = .ok (.areturn, 1) := by decide +kernel
theorem pn_1 : plainName "com/example/graded_flow/gradedflow/microscopic/Lanes" = true := by first | (simp [plainName, overriddenIn]; done) | decide +kernel
theorem ef_1_x (m : MethodId) (x0 : Int32) : entryFrame m #[(.int x0)] 3 = mkF m 0 #[.val (.int x0), .unset, .unset] [] := by first | (simp [entryFrame, mkF, argsToLocals, Value.category]; done) | rfl
def Q1 (Z : State) (N : Nat) (h0 : Heap) (n0 : Nat) (v : Option Value) (h : Heap) (L : List Loc) : Prop := ∃ (b : Addr) (cl : Cell), v = some (.ref b) ∧ Fr n0 L ∧ Keep h0 h [] ∧ (Arr Z h b cl .int) ∧ (n0 ≤ b) ∧ (cl.slots.size = N) ∧ (∀ j, j < N → cl.slots[j]? = some (.int (Int32.ofNat j)))
set_option maxRecDepth 65536 in
set_option maxHeartbeats 40000000 in
theorem rm1 (l : Launch) (Z : State) (a0 : Array Value) (hw : ∀ d ∈ tables_1, d.before a0 Z = true) (ws : List Jvm.Cond) (N : Nat) (h0 : Heap) (n0 : Nat) (Z0 : n0 ≤ h0.size) (hN : N ≤ 63) :
    MetFree l (⟨"com/example/graded_flow/gradedflow/microscopic/Lanes", "sameLanes", "(I)[I"⟩ : MethodName) (head1 (Jvm.Cond.code (⟨"com/example/graded_flow/gradedflow/microscopic/Lanes", "sameLanes", "(I)[I"⟩ : MethodName) prog_12_method_2_code 3 (some (.array .int)) :: ws) ({ frames := 0, cells := 1, slots := 63, locals := 0 } : Room)) (fun a U => a = #[(.int (Int32.ofNat N))] ∧ Z.Warmed39 U.vm ∧ U.heap = h0) (fun _ _ _ _ _ => True) (fun _ U o U' => ∃ v L, o = .returned v ∧ Q1 Z N h0 n0 v U'.heap L ∧ FrameEnd U o U' L ({ frames := 0, cells := 1, slots := 63, locals := 0 } : Room).cells ({ frames := 0, cells := 1, slots := 63, locals := 0 } : Room).slots) := by
  refine MetFree.of_bodySF (plainFor_of_name pn_1) hisR ?_
  intro p e s m args below meth c s₁ Bd hml0 hP hK
  obtain ⟨rfl, hZ, hh⟩ := hP
  have hx := Bd.exec
  have hby := Bd.bytes
  have hml : c.maxLocals = 3 := hml0
  have hown : s.vm.findClass "com/example/graded_flow/gradedflow/microscopic/Lanes" = some m.cls := findClass_of_methodNamed Bd.named
  have hnm := (name_of_methodNamed Bd.named Bd.method).1
  have X0 : Stand p l e ({ frames := 0, cells := 1, slots := 63, locals := 0 } : Room) s m #[(.int (Int32.ofNat N))] below meth c s₁ [] 0 0 := Stand.of_body Bd
  have e0 : s₁.heap = h0 := by rw [← hh, Bd.state]; rfl
  have N0 := Fr.nil n0
  have pre0 : ∀ t, Steps p.tables e below (s₁.setTop (mkF m 0 #[.val (.int (Int32.ofNat N)), .unset, .unset] [])) t → Steps p.tables e below (s₁.setTop (entryFrame m #[(.int (Int32.ofNat N))] 3)) t := fun t k => castTop (ef_1_x m (Int32.ofNat N)) k
  have J1 : ∀ t, Steps p.tables e below (s₁.setTop (mkF m 1 #[.val (.int (Int32.ofNat N)), .unset, .unset] [(.int (Int32.ofNat N))])) t → Steps p.tables e below (s₁.setTop (entryFrame m #[(.int (Int32.ofNat N))] 3)) t := fun t k => pre0 t (by
      show Steps p.tables e below (s₁.setTop (mkF m 0 #[.val (.int (Int32.ofNat N)), .unset, .unset] [])) _
      refine XS.iloadN X0.here hx rfl (hb hby d1_0) rfl ?_
      exact k)
  obtain ⟨T2, h2, k2, X2, e2, E2, A2, st2⟩ := newP X0 hx hZ (hw _ (List.mem_of_getElem? (i := 4) rfl)) e0 (g := (mkF m 1 #[.val (.int (Int32.ofNat N)), .unset, .unset] [(.int (Int32.ofNat N))])) rfl (hb hby d1_1) rfl (own_nn hN) (cap := 63) (by rw [own_n32 hN]; exact hN) (by decide) (by decide) (by decide)
  obtain ⟨b2, g2⟩ : ∃ z, z = h0.size := ⟨_, rfl⟩
  rw [← g2] at A2 st2
  obtain ⟨cl2, hcl2⟩ : ∃ z, z = newA k2 .int (Int32.ofNat N) := ⟨_, rfl⟩
  have Aw2 : Arr Z h2 b2 cl2 .int := by rw [hcl2]; exact A2
  have J3 : ∀ t, Steps p.tables e below (T2.setTop (mkF m 3 #[.val (.int (Int32.ofNat N)), .unset, .unset] [(.ref b2)])) t → Steps p.tables e below (s₁.setTop (entryFrame m #[(.int (Int32.ofNat N))] 3)) t := fun t k => J1 t (st2 t k)
  have ge4 : n0 ≤ b2 := Nat.le_trans Z0 (Nat.le_of_eq g2.symm)
  have sz5 : h0.size ≤ b2 := Nat.le_trans (Keep.refl h0 []).1 (Nat.le_of_eq g2.symm)
  have Z6 : n0 ≤ h2.size := Nat.le_trans Z0 E2.1
  have KK7 : Keep h0 h2 [] := (Keep.refl h0 []).ext E2
  have J8 : ∀ t, Steps p.tables e below (T2.setTop (mkF m 6 #[.val (.int (Int32.ofNat N)), .val (.ref b2), .val (.int (0 : Int32))] [])) t → Steps p.tables e below (s₁.setTop (entryFrame m #[(.int (Int32.ofNat N))] 3)) t := fun t k => J3 t (by
      show Steps p.tables e below (T2.setTop (mkF m 3 #[.val (.int (Int32.ofNat N)), .unset, .unset] [(.ref b2)])) _
      refine XS.astoreN X2.here hx rfl (hb hby d1_3) rfl rfl (l' := #[.val (.int (Int32.ofNat N)), .val (.ref b2), .unset]) rfl ?_
      show Steps p.tables e below (T2.setTop (mkF m 4 #[.val (.int (Int32.ofNat N)), .val (.ref b2), .unset] [])) _
      refine XS.iconst X2.here hx rfl (hb hby d1_4) ?_
      show Steps p.tables e below (T2.setTop (mkF m 5 #[.val (.int (Int32.ofNat N)), .val (.ref b2), .unset] [(.int (0 : Int32))])) _
      refine XS.istoreN X2.here hx rfl (hb hby d1_5) rfl (l' := #[.val (.int (Int32.ofNat N)), .val (.ref b2), .val (.int (0 : Int32))]) rfl ?_
      exact k)
  obtain ⟨T9, h9, lo9, cl'_9, X9, e9, N9, Z9, K9, p9_1, p9_2, p9_3, st9⟩ := loop1 N b2 hN ge4 hx hZ hw hby hml hown N 0 cl2 _ _ _ (by omega) X2 e2 N0 Z6 Aw2 (own_sz hN hcl2) (fun j hj => absurd hj (Nat.not_lt_zero j))
  have J10 : ∀ t, Steps p.tables e below (T9.setTop (mkF m 21 #[.val (.int (Int32.ofNat N)), .val (.ref b2), .val (.int (Int32.ofNat N))] [])) t → Steps p.tables e below (s₁.setTop (entryFrame m #[(.int (Int32.ofNat N))] 3)) t := fun t k => J8 t (st9 t k)
  have Z11 : n0 ≤ h9.size := Nat.le_trans Z6 K9.1
  have KK12 : Keep h0 h9 [] := KK7.trans K9 (allS (Or.inr sz5) all0)
  have J13 : ∀ t, Steps p.tables e below (T9.setTop (mkF m 22 #[.val (.int (Int32.ofNat N)), .val (.ref b2), .val (.int (Int32.ofNat N))] [(.ref b2)])) t → Steps p.tables e below (s₁.setTop (entryFrame m #[(.int (Int32.ofNat N))] 3)) t := fun t k => J10 t (by
      show Steps p.tables e below (T9.setTop (mkF m 21 #[.val (.int (Int32.ofNat N)), .val (.ref b2), .val (.int (Int32.ofNat N))] [])) _
      refine XS.aloadN X9.here hx rfl (hb hby d1_21) rfl rfl ?_
      exact k)
  obtain ⟨fs, hr, hrun, hended, hW, hsame⟩ := X9.leave (v := some (.ref b2)) (fun h => by rw [Bd.returns] at h; cases h)
  refine ⟨_, _, J13 _ ?_, hrun, hended, _, _, rfl, ?_, ⟨_, rfl⟩, hW, hsame.mono (by decide) (by decide)⟩
  · show Steps p.tables e below (T9.setTop (mkF m 22 #[.val (.int (Int32.ofNat N)), .val (.ref b2), .val (.int (Int32.ofNat N))] [(.ref b2)])) _
    jvm_step X9.here [X9.here.top, hx, (hb hby d1_22), X9.method', Bd.returns, Value.isRef, FieldType.isReference]
    first | (intro acts; rw [hr _ acts rfl rfl rfl]) | rw [hr _ _ rfl rfl rfl]
    exact Steps.refl _
  · show Q1 Z N h0 n0 _ T9.heap _
    rw [e9]
    exact ⟨b2, cl'_9, rfl, N9, KK12, p9_1, ge4, p9_2, p9_3⟩
theorem d2_0 : decode method_3_code 0 = .ok (.iload_n 1, 1) := by decide +kernel
theorem d2_1 : decode method_3_code 1 = .ok (.aload_n 0, 1) := by decide +kernel
theorem d2_2 : decode method_3_code 2 = .ok (.arraylength, 1) := by decide +kernel
theorem d2_3 : decode method_3_code 3 = .ok (.if_icmp .ge 10, 3) := by decide +kernel
theorem d2_6 : decode method_3_code 6 = .ok (.aload_n 0, 1) := by decide +kernel
theorem d2_7 : decode method_3_code 7 = .ok (.iload_n 1, 1) := by decide +kernel
theorem d2_8 : decode method_3_code 8 = .ok (.iaload, 1) := by decide +kernel
theorem d2_9 : decode method_3_code 9 = .ok (.iload_n 1, 1) := by decide +kernel
theorem d2_10 : decode method_3_code 10 = .ok (.if_icmp .ne 7, 3) := by decide +kernel
theorem d2_13 : decode method_3_code 13 = .ok (.iconst 1, 1) := by decide +kernel
theorem d2_14 : decode method_3_code 14 = .ok (.goto 4, 3) := by decide +kernel
theorem d2_18 : decode method_3_code 18 = .ok (.ireturn, 1) := by decide +kernel
theorem pn_2 : plainName "com/example/graded_flow/gradedflow/microscopic/LanesSameLanesPinLaw" = true := by first | (simp [plainName, overriddenIn]; done) | decide +kernel
theorem ef_2_xx (m : MethodId) (x0 : Addr) (x1 : Int32) : entryFrame m #[(.ref x0), (.int x1)] 2 = mkF m 0 #[.val (.ref x0), .val (.int x1)] [] := by first | (simp [entryFrame, mkF, argsToLocals, Value.category]; done) | rfl
def Q2 (Z : State) (a1 : Addr) (N : Nat) (i : Nat) (cl : Cell) (h0 : Heap) (n0 : Nat) (v : Option Value) (h : Heap) (L : List Loc) : Prop := v = some (.int (1 : Int32)) ∧ Fr n0 L ∧ h = h0
set_option maxRecDepth 65536 in
set_option maxHeartbeats 40000000 in
theorem rm2 (l : Launch) (Z : State) (a0 : Array Value) (hw : ∀ d ∈ tables_1, d.before a0 Z = true) (ws : List Jvm.Cond) (a1 : Addr) (N : Nat) (i : Nat) (cl : Cell) (h0 : Heap) (n0 : Nat) (Z0 : n0 ≤ h0.size) (Ar_a1 : Arr Z h0 a1 cl .int) (hN : N ≤ 63) (hi : i ≤ 63) (hs : cl.slots.size = N) (hat : ∀ j, j < N → cl.slots[j]? = some (.int (Int32.ofNat j))) :
    MetFree l (⟨"com/example/graded_flow/gradedflow/microscopic/LanesSameLanesPinLaw", "at", "([II)Z"⟩ : MethodName) (head1 (Jvm.Cond.code (⟨"com/example/graded_flow/gradedflow/microscopic/LanesSameLanesPinLaw", "at", "([II)Z"⟩ : MethodName) method_3_code 2 (some .boolean) :: ws) ({ frames := 0, cells := 0, slots := 0, locals := 0 } : Room)) (fun a U => a = #[(.ref a1), (.int (Int32.ofNat i))] ∧ Z.Warmed39 U.vm ∧ U.heap = h0) (fun _ _ _ _ _ => True) (fun _ U o U' => ∃ v L, o = .returned v ∧ Q2 Z a1 N i cl h0 n0 v U'.heap L ∧ FrameEnd U o U' L ({ frames := 0, cells := 0, slots := 0, locals := 0 } : Room).cells ({ frames := 0, cells := 0, slots := 0, locals := 0 } : Room).slots) := by
  refine MetFree.of_bodySF (plainFor_of_name pn_2) hisR ?_
  intro p e s m args below meth c s₁ Bd hml0 hP hK
  obtain ⟨rfl, hZ, hh⟩ := hP
  have hx := Bd.exec
  have hby := Bd.bytes
  have hml : c.maxLocals = 2 := hml0
  have hown : s.vm.findClass "com/example/graded_flow/gradedflow/microscopic/LanesSameLanesPinLaw" = some m.cls := findClass_of_methodNamed Bd.named
  have hnm := (name_of_methodNamed Bd.named Bd.method).1
  have X0 : Stand p l e ({ frames := 0, cells := 0, slots := 0, locals := 0 } : Room) s m #[(.ref a1), (.int (Int32.ofNat i))] below meth c s₁ [] 0 0 := Stand.of_body Bd
  have e0 : s₁.heap = h0 := by rw [← hh, Bd.state]; rfl
  have N0 := Fr.nil n0
  have pre0 : ∀ t, Steps p.tables e below (s₁.setTop (mkF m 0 #[.val (.ref a1), .val (.int (Int32.ofNat i))] [])) t → Steps p.tables e below (s₁.setTop (entryFrame m #[(.ref a1), (.int (Int32.ofNat i))] 2)) t := fun t k => castTop (ef_2_xx m a1 (Int32.ofNat i)) k
  have J1 : ∀ t, Steps p.tables e below (s₁.setTop (mkF m 3 #[.val (.ref a1), .val (.int (Int32.ofNat i))] [(.int (Int32.ofNat N)), (.int (Int32.ofNat i))])) t → Steps p.tables e below (s₁.setTop (entryFrame m #[(.ref a1), (.int (Int32.ofNat i))] 2)) t := fun t k => pre0 t (by
      show Steps p.tables e below (s₁.setTop (mkF m 0 #[.val (.ref a1), .val (.int (Int32.ofNat i))] [])) _
      refine XS.iloadN X0.here hx rfl (hb hby d2_0) rfl ?_
      show Steps p.tables e below (s₁.setTop (mkF m 1 #[.val (.ref a1), .val (.int (Int32.ofNat i))] [(.int (Int32.ofNat i))])) _
      refine XS.aloadN X0.here hx rfl (hb hby d2_1) rfl rfl ?_
      show Steps p.tables e below (s₁.setTop (mkF m 2 #[.val (.ref a1), .val (.int (Int32.ofNat i))] [(.ref a1), (.int (Int32.ofNat i))])) _
      refine X0.arraylength hx (cell := cl) (by rw [e0]; exact Ar_a1.1) (State.isArrayOf_alike hZ.alike Ar_a1.2.1) (g := (mkF m 2 #[.val (.ref a1), .val (.int (Int32.ofNat i))] [(.ref a1), (.int (Int32.ofNat i))])) rfl (rest := [(.int (Int32.ofNat i))]) rfl (hb hby d2_2) _ ?_
      rw [(own_len hs hN)]
      exact k)
  by_cases hlt : i < N
  ·
    have J2 : ∀ t, Steps p.tables e below (s₁.setTop (mkF m 18 #[.val (.ref a1), .val (.int (Int32.ofNat i))] [(.int (1 : Int32))])) t → Steps p.tables e below (s₁.setTop (entryFrame m #[(.ref a1), (.int (Int32.ofNat i))] 2)) t := fun t k => J1 t (by
        show Steps p.tables e below (s₁.setTop (mkF m 3 #[.val (.ref a1), .val (.int (Int32.ofNat i))] [(.int (Int32.ofNat N)), (.int (Int32.ofNat i))])) _
        refine XS.icmpNo X0.here hx rfl (hb hby d2_3) rfl (tlt (own_lt hlt hN)).2.1 ?_
        show Steps p.tables e below (s₁.setTop (mkF m 6 #[.val (.ref a1), .val (.int (Int32.ofNat i))] [])) _
        refine XS.aloadN X0.here hx rfl (hb hby d2_6) rfl rfl ?_
        show Steps p.tables e below (s₁.setTop (mkF m 7 #[.val (.ref a1), .val (.int (Int32.ofNat i))] [(.ref a1)])) _
        refine XS.iloadN X0.here hx rfl (hb hby d2_7) rfl ?_
        show Steps p.tables e below (s₁.setTop (mkF m 8 #[.val (.ref a1), .val (.int (Int32.ofNat i))] [(.int (Int32.ofNat i)), (.ref a1)])) _
        refine X0.iaload hx (j := (Int32.ofNat i)) (v := (.int (Int32.ofNat i))) (by rw [e0]; exact Ar_a1.1) (State.isArrayOf_alike hZ.alike Ar_a1.2.1) Ar_a1.2.2 (own_inb hs hlt hN) (own_at hN hat hlt) (g := (mkF m 8 #[.val (.ref a1), .val (.int (Int32.ofNat i))] [(.int (Int32.ofNat i)), (.ref a1)])) rfl rfl (hb hby d2_8) _ ?_
        show Steps p.tables e below (s₁.setTop (mkF m 9 #[.val (.ref a1), .val (.int (Int32.ofNat i))] [(.int (Int32.ofNat i))])) _
        refine XS.iloadN X0.here hx rfl (hb hby d2_9) rfl ?_
        show Steps p.tables e below (s₁.setTop (mkF m 10 #[.val (.ref a1), .val (.int (Int32.ofNat i))] [(.int (Int32.ofNat i)), (.int (Int32.ofNat i))])) _
        refine XS.icmpNo X0.here hx rfl (hb hby d2_10) rfl (teq rfl).2 ?_
        show Steps p.tables e below (s₁.setTop (mkF m 13 #[.val (.ref a1), .val (.int (Int32.ofNat i))] [])) _
        refine XS.iconst X0.here hx rfl (hb hby d2_13) ?_
        show Steps p.tables e below (s₁.setTop (mkF m 14 #[.val (.ref a1), .val (.int (Int32.ofNat i))] [(.int (1 : Int32))])) _
        refine XS.goto X0.here hx rfl (pc0 := 14) (pc' := 18) rfl (hb hby d2_14) (by decide) (by decide) ?_
        exact k)
    obtain ⟨fs, hr, hrun, hended, hW, hsame⟩ := X0.leave (v := some (.int (1 : Int32))) (fun h => by rw [Bd.returns] at h; cases h)
    refine ⟨_, _, J2 _ ?_, hrun, hended, _, _, rfl, ?_, ⟨_, rfl⟩, hW, hsame.mono (by decide) (by decide)⟩
    · show Steps p.tables e below (s₁.setTop (mkF m 18 #[.val (.ref a1), .val (.int (Int32.ofNat i))] [(.int (1 : Int32))])) _
      exact retN X0 hx (t := .boolean) Bd.returns (by simp) (hb hby d2_18) hr
    · show Q2 Z a1 N i cl h0 n0 _ s₁.heap _
      rw [e0]
      exact ⟨rfl, N0, rfl⟩
  ·
    have J3 : ∀ t, Steps p.tables e below (s₁.setTop (mkF m 18 #[.val (.ref a1), .val (.int (Int32.ofNat i))] [(.int (1 : Int32))])) t → Steps p.tables e below (s₁.setTop (entryFrame m #[(.ref a1), (.int (Int32.ofNat i))] 2)) t := fun t k => J1 t (by
        show Steps p.tables e below (s₁.setTop (mkF m 3 #[.val (.ref a1), .val (.int (Int32.ofNat i))] [(.int (Int32.ofNat N)), (.int (Int32.ofNat i))])) _
        refine XS.icmpYes X0.here hx rfl (pc0 := 3) (pc' := 13) rfl (hb hby d2_3) rfl (flt (own_nlt (Nat.le_of_not_lt hlt) hi)).2.1 (by decide) (by decide) ?_
        show Steps p.tables e below (s₁.setTop (mkF m 13 #[.val (.ref a1), .val (.int (Int32.ofNat i))] [])) _
        refine XS.iconst X0.here hx rfl (hb hby d2_13) ?_
        show Steps p.tables e below (s₁.setTop (mkF m 14 #[.val (.ref a1), .val (.int (Int32.ofNat i))] [(.int (1 : Int32))])) _
        refine XS.goto X0.here hx rfl (pc0 := 14) (pc' := 18) rfl (hb hby d2_14) (by decide) (by decide) ?_
        exact k)
    obtain ⟨fs, hr, hrun, hended, hW, hsame⟩ := X0.leave (v := some (.int (1 : Int32))) (fun h => by rw [Bd.returns] at h; cases h)
    refine ⟨_, _, J3 _ ?_, hrun, hended, _, _, rfl, ?_, ⟨_, rfl⟩, hW, hsame.mono (by decide) (by decide)⟩
    · show Steps p.tables e below (s₁.setTop (mkF m 18 #[.val (.ref a1), .val (.int (Int32.ofNat i))] [(.int (1 : Int32))])) _
      exact retN X0 hx (t := .boolean) Bd.returns (by simp) (hb hby d2_18) hr
    · show Q2 Z a1 N i cl h0 n0 _ s₁.heap _
      rw [e0]
      exact ⟨rfl, N0, rfl⟩
theorem pd_0 : parseMethodDescriptor "(I)[I" = some ⟨[.int], some (.array .int)⟩ := by decide +kernel
theorem pd_1 : parseMethodDescriptor "([II)Z" = some ⟨[(.array .int), .int], some .boolean⟩ := by decide +kernel
theorem pn_0 : plainName "com/example/graded_flow/gradedflow/microscopic/LanesSameLanesPinLaw" = true := by first | (simp [plainName, overriddenIn]; done) | decide +kernel
theorem ef_0_xx (m : MethodId) (x0 : Int32) (x1 : Int32) : entryFrame m #[(.int x0), (.int x1)] maxLocals = mkF m 0 #[.val (.int x0), .val (.int x1), .unset, .unset, .unset, .unset, .unset] [] := by first | (simp [entryFrame, mkF, argsToLocals, Value.category, maxLocals]; done) | rfl
def Q0 (Z : State) (p1 : Int32) (p2 : Int32) (h0 : Heap) (n0 : Nat) (v : Option Value) (h : Heap) (L : List Loc) : Prop := v = some (.int (1 : Int32)) ∧ Fr n0 L
set_option maxRecDepth 65536 in
set_option maxHeartbeats 40000000 in
theorem rm0 (l : Launch) (Z : State) (a0 : Array Value) (hw : ∀ d ∈ tables_1, d.before a0 Z = true) (ws : List Jvm.Cond) (p1 : Int32) (p2 : Int32) (h0 : Heap) (n0 : Nat) (Z0 : n0 ≤ h0.size) :
    MetFree l x (head1 (Jvm.Cond.code x code maxLocals ret :: ws) room_1) (fun a U => a = #[(.int p1), (.int p2)] ∧ Z.Warmed39 U.vm ∧ U.heap = h0) (fun _ _ _ _ _ => True) (fun _ U o U' => ∃ v L, o = .returned v ∧ Q0 Z p1 p2 h0 n0 v U'.heap L ∧ FrameEnd U o U' L room_1.cells room_1.slots) := by
  refine MetFree.of_bodySF (plainFor_of_name pn_0) hisR ?_
  intro p e s m args below meth c s₁ Bd hml0 hP hK
  obtain ⟨rfl, hZ, hh⟩ := hP
  have hx := Bd.exec
  have hby := Bd.bytes
  have hml : c.maxLocals = 7 := hml0
  have hown : s.vm.findClass "com/example/graded_flow/gradedflow/microscopic/LanesSameLanesPinLaw" = some m.cls := findClass_of_methodNamed Bd.named
  have hnm := (name_of_methodNamed Bd.named Bd.method).1
  have X0 : Stand p l e room_1 s m #[(.int p1), (.int p2)] below meth c s₁ [] 0 0 := Stand.of_body Bd
  have e0 : s₁.heap = h0 := by rw [← hh, Bd.state]; rfl
  have N0 := Fr.nil n0
  have pre0 : ∀ t, Steps p.tables e below (s₁.setTop (mkF m 0 #[.val (.int p1), .val (.int p2), .unset, .unset, .unset, .unset, .unset] [])) t → Steps p.tables e below (s₁.setTop (entryFrame m #[(.int p1), (.int p2)] maxLocals)) t := fun t k => castTop (ef_0_xx m p1 p2) k
  have J1 : ∀ t, Steps p.tables e below (s₁.setTop (mkF m 5 #[.val (.int p1), .val (.int p2), .val (.int (p1 &&& (63 : Int32))), .unset, .unset, .unset, .unset] [])) t → Steps p.tables e below (s₁.setTop (entryFrame m #[(.int p1), (.int p2)] maxLocals)) t := fun t k => pre0 t (by
      show Steps p.tables e below (s₁.setTop (mkF m 0 #[.val (.int p1), .val (.int p2), .unset, .unset, .unset, .unset, .unset] [])) _
      refine XS.iloadN X0.here hx rfl (hb hby at_0) rfl ?_
      show Steps p.tables e below (s₁.setTop (mkF m 1 #[.val (.int p1), .val (.int p2), .unset, .unset, .unset, .unset, .unset] [(.int p1)])) _
      refine XS.bipush X0.here hx rfl (hb hby at_1) ?_
      show Steps p.tables e below (s₁.setTop (mkF m 3 #[.val (.int p1), .val (.int p2), .unset, .unset, .unset, .unset, .unset] [(.int (63 : Int32)), (.int p1)])) _
      refine XS.iand X0.here hx rfl (hb hby at_3) rfl ?_
      show Steps p.tables e below (s₁.setTop (mkF m 4 #[.val (.int p1), .val (.int p2), .unset, .unset, .unset, .unset, .unset] [(.int (p1 &&& (63 : Int32)))])) _
      refine XS.istoreN X0.here hx rfl (hb hby at_4) rfl (l' := #[.val (.int p1), .val (.int p2), .val (.int (p1 &&& (63 : Int32))), .unset, .unset, .unset, .unset]) rfl ?_
      exact k)
  obtain ⟨n, hn⟩ : ∃ z : Int32, z = (p1 &&& (63 : Int32)) := ⟨_, rfl⟩
  have J2 : ∀ t, Steps p.tables e below (s₁.setTop (mkF m 5 #[.val (.int p1), .val (.int p2), .val (.int n), .unset, .unset, .unset, .unset] [])) t → Steps p.tables e below (s₁.setTop (entryFrame m #[(.int p1), (.int p2)] maxLocals)) t := fun t k => J1 t (by subst hn; exact k)
  obtain ⟨N, hN, rfl⟩ := own_mask p1 n hn
  have J3 : ∀ t, Steps p.tables e below (s₁.setTop (mkF m 6 #[.val (.int p1), .val (.int p2), .val (.int (Int32.ofNat N)), .unset, .unset, .unset, .unset] [(.int (Int32.ofNat N))])) t → Steps p.tables e below (s₁.setTop (entryFrame m #[(.int p1), (.int p2)] maxLocals)) t := fun t k => J2 t (by
      show Steps p.tables e below (s₁.setTop (mkF m 5 #[.val (.int p1), .val (.int p2), .val (.int (Int32.ofNat N)), .unset, .unset, .unset, .unset] [])) _
      refine XS.iloadN X0.here hx rfl (hb hby at_5) rfl ?_
      exact k)
  obtain ⟨_, _, ⟨T4, L4, k4, n4⟩, -, X4, ⟨Lc4, hQ4, l4, y4, z4⟩, st4⟩ := Jvm.LawKit.callS X0 hx (y := (⟨"com/example/graded_flow/gradedflow/microscopic/Lanes", "sameLanes", "(I)[I"⟩ : MethodName)) hown (mvT hZ (hw _ (List.mem_of_getElem? (i := 0) rfl))) (mvT hZ (hw _ (List.mem_of_getElem? (i := 1) rfl))) (mvT hZ (hw _ (List.mem_of_getElem? (i := 2) rfl))) (mvT hZ (hw _ (List.mem_of_getElem? (i := 3) rfl))) (by decide) (backOf (W := 0) (rm1 l Z a0 hw [] N h0 n0 Z0 hN) hZ (hw _ (List.mem_of_getElem? (i := 3) rfl)) (hw _ (List.mem_of_getElem? (i := 2) rfl)) (by decide) (by decide)) (g := (mkF m 6 #[.val (.int p1), .val (.int p2), .val (.int (Int32.ofNat N)), .unset, .unset, .unset, .unset] [(.int (Int32.ofNat N))])) rfl (by rw [hml]; rfl) (argsL := [(.int (Int32.ofNat N))]) (rest := []) (lenOf pd_0 rfl) rfl (by show 2 * 0 + _ ≤ _; exact Nat.le_of_eq rfl) (hb hby at_6) (fun _ _ => ⟨rfl, e0, (by decide : 0 + 1 ≤ _), (by decide : 0 + 63 ≤ _)⟩)
  dsimp only [Pt.U, Pt.locs, Pt.cells, Pt.slots] at X4 l4 y4 z4 st4 hQ4
  subst l4 y4 z4
  obtain ⟨b_4, cl_4, rfl, Nq4, K4, p4_1, p4_2, p4_3, p4_4⟩ := hQ4
  have N5 := Fr.app N0 Nq4
  have J6 : ∀ t, Steps p.tables e below (T4.setTop (mkF m 9 #[.val (.int p1), .val (.int p2), .val (.int (Int32.ofNat N)), .unset, .unset, .unset, .unset] [(.ref b_4)])) t → Steps p.tables e below (s₁.setTop (entryFrame m #[(.int p1), (.int p2)] maxLocals)) t := fun t k => J3 t (st4 t k)
  have Z7 : n0 ≤ T4.heap.size := Nat.le_trans Z0 K4.1
  have J8 : ∀ t, Steps p.tables e below (T4.setTop (mkF m 24 #[.val (.int p1), .val (.int p2), .val (.int (Int32.ofNat N)), .val (.ref b_4), .unset, .unset, .unset] [(.int (0 : Int32)), (.ref b_4)])) t → Steps p.tables e below (s₁.setTop (entryFrame m #[(.int p1), (.int p2)] maxLocals)) t := fun t k => J6 t (by
      show Steps p.tables e below (T4.setTop (mkF m 9 #[.val (.int p1), .val (.int p2), .val (.int (Int32.ofNat N)), .unset, .unset, .unset, .unset] [(.ref b_4)])) _
      refine XS.astoreN X4.here hx rfl (hb hby at_9) rfl rfl (l' := #[.val (.int p1), .val (.int p2), .val (.int (Int32.ofNat N)), .val (.ref b_4), .unset, .unset, .unset]) rfl ?_
      show Steps p.tables e below (T4.setTop (mkF m 10 #[.val (.int p1), .val (.int p2), .val (.int (Int32.ofNat N)), .val (.ref b_4), .unset, .unset, .unset] [])) _
      refine XS.aloadN X4.here hx rfl (hb hby at_10) rfl rfl ?_
      show Steps p.tables e below (T4.setTop (mkF m 11 #[.val (.int p1), .val (.int p2), .val (.int (Int32.ofNat N)), .val (.ref b_4), .unset, .unset, .unset] [(.ref b_4)])) _
      refine XS.ifnullNo X4.here hx rfl (hb hby at_11) rfl ?_
      show Steps p.tables e below (T4.setTop (mkF m 14 #[.val (.int p1), .val (.int p2), .val (.int (Int32.ofNat N)), .val (.ref b_4), .unset, .unset, .unset] [])) _
      refine XS.aloadN X4.here hx rfl (hb hby at_14) rfl rfl ?_
      show Steps p.tables e below (T4.setTop (mkF m 15 #[.val (.int p1), .val (.int p2), .val (.int (Int32.ofNat N)), .val (.ref b_4), .unset, .unset, .unset] [(.ref b_4)])) _
      refine X4.arraylength hx (cell := cl_4) p4_1.1 (State.isArrayOf_alike hZ.alike p4_1.2.1) (g := (mkF m 15 #[.val (.int p1), .val (.int p2), .val (.int (Int32.ofNat N)), .val (.ref b_4), .unset, .unset, .unset] [(.ref b_4)])) rfl (rest := []) rfl (hb hby at_15) _ ?_
      rw [(own_len p4_3 hN)]
      show Steps p.tables e below (T4.setTop (mkF m 16 #[.val (.int p1), .val (.int p2), .val (.int (Int32.ofNat N)), .val (.ref b_4), .unset, .unset, .unset] [(.int (Int32.ofNat N))])) _
      refine XS.iloadN X4.here hx rfl (hb hby at_16) rfl ?_
      show Steps p.tables e below (T4.setTop (mkF m 17 #[.val (.int p1), .val (.int p2), .val (.int (Int32.ofNat N)), .val (.ref b_4), .unset, .unset, .unset] [(.int (Int32.ofNat N)), (.int (Int32.ofNat N))])) _
      refine XS.icmpYes X4.here hx rfl (pc0 := 17) (pc' := 22) rfl (hb hby at_17) rfl (teq rfl).1 (by decide) (by decide) ?_
      show Steps p.tables e below (T4.setTop (mkF m 22 #[.val (.int p1), .val (.int p2), .val (.int (Int32.ofNat N)), .val (.ref b_4), .unset, .unset, .unset] [])) _
      refine XS.aloadN X4.here hx rfl (hb hby at_22) rfl rfl ?_
      show Steps p.tables e below (T4.setTop (mkF m 23 #[.val (.int p1), .val (.int p2), .val (.int (Int32.ofNat N)), .val (.ref b_4), .unset, .unset, .unset] [(.ref b_4)])) _
      refine XS.iconst X4.here hx rfl (hb hby at_23) ?_
      exact k)
  have J9 : ∀ t, Steps p.tables e below (T4.setTop (mkF m 24 #[.val (.int p1), .val (.int p2), .val (.int (Int32.ofNat N)), .val (.ref b_4), .unset, .unset, .unset] [(.int (Int32.ofNat 0)), (.ref b_4)])) t → Steps p.tables e below (s₁.setTop (entryFrame m #[(.int p1), (.int p2)] maxLocals)) t := J8
  obtain ⟨_, _, ⟨T10, L10, k10, n10⟩, -, X10, ⟨Lc10, hQ10, l10, y10, z10⟩, st10⟩ := Jvm.LawKit.callS X4 hx (y := (⟨"com/example/graded_flow/gradedflow/microscopic/LanesSameLanesPinLaw", "at", "([II)Z"⟩ : MethodName)) hown (mvT hZ (hw _ (List.mem_of_getElem? (i := 5) rfl))) (mvT hZ (hw _ (List.mem_of_getElem? (i := 6) rfl))) (mvT hZ (hw _ (List.mem_of_getElem? (i := 7) rfl))) (mvT hZ (hw _ (List.mem_of_getElem? (i := 8) rfl))) (by decide) (backOf (W := 0) (rm2 l Z a0 hw [] b_4 N 0 cl_4 T4.heap n0 Z7 p4_1 hN (by decide) p4_3 p4_4) hZ (hw _ (List.mem_of_getElem? (i := 8) rfl)) (hw _ (List.mem_of_getElem? (i := 7) rfl)) (by decide) (by decide)) (g := (mkF m 24 #[.val (.int p1), .val (.int p2), .val (.int (Int32.ofNat N)), .val (.ref b_4), .unset, .unset, .unset] [(.int (Int32.ofNat 0)), (.ref b_4)])) rfl (by rw [hml]; rfl) (argsL := [(.ref b_4), (.int (Int32.ofNat 0))]) (rest := []) (lenOf pd_1 rfl) rfl (by show 2 * 0 + _ ≤ _; exact Nat.le_of_eq rfl) (hb hby at_24) (fun _ _ => ⟨rfl, rfl, (by decide : 1 + 0 ≤ _), (by decide : 63 + 0 ≤ _)⟩)
  dsimp only [Pt.U, Pt.locs, Pt.cells, Pt.slots] at X10 l10 y10 z10 st10 hQ10
  subst l10 y10 z10
  obtain ⟨rfl, Nq10, e10⟩ := hQ10
  have N11 := Fr.app N5 Nq10
  have J12 : ∀ t, Steps p.tables e below (T10.setTop (mkF m 27 #[.val (.int p1), .val (.int p2), .val (.int (Int32.ofNat N)), .val (.ref b_4), .unset, .unset, .unset] [(.int (1 : Int32))])) t → Steps p.tables e below (s₁.setTop (entryFrame m #[(.int p1), (.int p2)] maxLocals)) t := fun t k => J9 t (st10 t k)
  have J13 : ∀ t, Steps p.tables e below (T10.setTop (mkF m 32 #[.val (.int p1), .val (.int p2), .val (.int (Int32.ofNat N)), .val (.ref b_4), .unset, .unset, .unset] [(.int (1 : Int32)), (.ref b_4)])) t → Steps p.tables e below (s₁.setTop (entryFrame m #[(.int p1), (.int p2)] maxLocals)) t := fun t k => J12 t (by
      show Steps p.tables e below (T10.setTop (mkF m 27 #[.val (.int p1), .val (.int p2), .val (.int (Int32.ofNat N)), .val (.ref b_4), .unset, .unset, .unset] [(.int (1 : Int32))])) _
      refine XS.ifNo X10.here hx rfl (hb hby at_27) rfl ((if0 _ _).trans (feq (by decide)).1) ?_
      show Steps p.tables e below (T10.setTop (mkF m 30 #[.val (.int p1), .val (.int p2), .val (.int (Int32.ofNat N)), .val (.ref b_4), .unset, .unset, .unset] [])) _
      refine XS.aloadN X10.here hx rfl (hb hby at_30) rfl rfl ?_
      show Steps p.tables e below (T10.setTop (mkF m 31 #[.val (.int p1), .val (.int p2), .val (.int (Int32.ofNat N)), .val (.ref b_4), .unset, .unset, .unset] [(.ref b_4)])) _
      refine XS.iconst X10.here hx rfl (hb hby at_31) ?_
      exact k)
  have J14 : ∀ t, Steps p.tables e below (T10.setTop (mkF m 32 #[.val (.int p1), .val (.int p2), .val (.int (Int32.ofNat N)), .val (.ref b_4), .unset, .unset, .unset] [(.int (Int32.ofNat 1)), (.ref b_4)])) t → Steps p.tables e below (s₁.setTop (entryFrame m #[(.int p1), (.int p2)] maxLocals)) t := J13
  obtain ⟨_, _, ⟨T15, L15, k15, n15⟩, -, X15, ⟨Lc15, hQ15, l15, y15, z15⟩, st15⟩ := Jvm.LawKit.callS X10 hx (y := (⟨"com/example/graded_flow/gradedflow/microscopic/LanesSameLanesPinLaw", "at", "([II)Z"⟩ : MethodName)) hown (mvT hZ (hw _ (List.mem_of_getElem? (i := 5) rfl))) (mvT hZ (hw _ (List.mem_of_getElem? (i := 6) rfl))) (mvT hZ (hw _ (List.mem_of_getElem? (i := 7) rfl))) (mvT hZ (hw _ (List.mem_of_getElem? (i := 8) rfl))) (by decide) (backOf (W := 0) (rm2 l Z a0 hw [] b_4 N 1 cl_4 T4.heap n0 Z7 p4_1 hN (by decide) p4_3 p4_4) hZ (hw _ (List.mem_of_getElem? (i := 8) rfl)) (hw _ (List.mem_of_getElem? (i := 7) rfl)) (by decide) (by decide)) (g := (mkF m 32 #[.val (.int p1), .val (.int p2), .val (.int (Int32.ofNat N)), .val (.ref b_4), .unset, .unset, .unset] [(.int (Int32.ofNat 1)), (.ref b_4)])) rfl (by rw [hml]; rfl) (argsL := [(.ref b_4), (.int (Int32.ofNat 1))]) (rest := []) (lenOf pd_1 rfl) rfl (by show 2 * 0 + _ ≤ _; exact Nat.le_of_eq rfl) (hb hby at_32) (fun _ _ => ⟨rfl, e10, (by decide : 1 + 0 ≤ _), (by decide : 63 + 0 ≤ _)⟩)
  dsimp only [Pt.U, Pt.locs, Pt.cells, Pt.slots] at X15 l15 y15 z15 st15 hQ15
  subst l15 y15 z15
  obtain ⟨rfl, Nq15, e15⟩ := hQ15
  have N16 := Fr.app N11 Nq15
  have J17 : ∀ t, Steps p.tables e below (T15.setTop (mkF m 35 #[.val (.int p1), .val (.int p2), .val (.int (Int32.ofNat N)), .val (.ref b_4), .unset, .unset, .unset] [(.int (1 : Int32))])) t → Steps p.tables e below (s₁.setTop (entryFrame m #[(.int p1), (.int p2)] maxLocals)) t := fun t k => J14 t (st15 t k)
  have J18 : ∀ t, Steps p.tables e below (T15.setTop (mkF m 40 #[.val (.int p1), .val (.int p2), .val (.int (Int32.ofNat N)), .val (.ref b_4), .unset, .unset, .unset] [(.int (2 : Int32)), (.ref b_4)])) t → Steps p.tables e below (s₁.setTop (entryFrame m #[(.int p1), (.int p2)] maxLocals)) t := fun t k => J17 t (by
      show Steps p.tables e below (T15.setTop (mkF m 35 #[.val (.int p1), .val (.int p2), .val (.int (Int32.ofNat N)), .val (.ref b_4), .unset, .unset, .unset] [(.int (1 : Int32))])) _
      refine XS.ifNo X15.here hx rfl (hb hby at_35) rfl ((if0 _ _).trans (feq (by decide)).1) ?_
      show Steps p.tables e below (T15.setTop (mkF m 38 #[.val (.int p1), .val (.int p2), .val (.int (Int32.ofNat N)), .val (.ref b_4), .unset, .unset, .unset] [])) _
      refine XS.aloadN X15.here hx rfl (hb hby at_38) rfl rfl ?_
      show Steps p.tables e below (T15.setTop (mkF m 39 #[.val (.int p1), .val (.int p2), .val (.int (Int32.ofNat N)), .val (.ref b_4), .unset, .unset, .unset] [(.ref b_4)])) _
      refine XS.iconst X15.here hx rfl (hb hby at_39) ?_
      exact k)
  have J19 : ∀ t, Steps p.tables e below (T15.setTop (mkF m 40 #[.val (.int p1), .val (.int p2), .val (.int (Int32.ofNat N)), .val (.ref b_4), .unset, .unset, .unset] [(.int (Int32.ofNat 2)), (.ref b_4)])) t → Steps p.tables e below (s₁.setTop (entryFrame m #[(.int p1), (.int p2)] maxLocals)) t := J18
  obtain ⟨_, _, ⟨T20, L20, k20, n20⟩, -, X20, ⟨Lc20, hQ20, l20, y20, z20⟩, st20⟩ := Jvm.LawKit.callS X15 hx (y := (⟨"com/example/graded_flow/gradedflow/microscopic/LanesSameLanesPinLaw", "at", "([II)Z"⟩ : MethodName)) hown (mvT hZ (hw _ (List.mem_of_getElem? (i := 5) rfl))) (mvT hZ (hw _ (List.mem_of_getElem? (i := 6) rfl))) (mvT hZ (hw _ (List.mem_of_getElem? (i := 7) rfl))) (mvT hZ (hw _ (List.mem_of_getElem? (i := 8) rfl))) (by decide) (backOf (W := 0) (rm2 l Z a0 hw [] b_4 N 2 cl_4 T4.heap n0 Z7 p4_1 hN (by decide) p4_3 p4_4) hZ (hw _ (List.mem_of_getElem? (i := 8) rfl)) (hw _ (List.mem_of_getElem? (i := 7) rfl)) (by decide) (by decide)) (g := (mkF m 40 #[.val (.int p1), .val (.int p2), .val (.int (Int32.ofNat N)), .val (.ref b_4), .unset, .unset, .unset] [(.int (Int32.ofNat 2)), (.ref b_4)])) rfl (by rw [hml]; rfl) (argsL := [(.ref b_4), (.int (Int32.ofNat 2))]) (rest := []) (lenOf pd_1 rfl) rfl (by show 2 * 0 + _ ≤ _; exact Nat.le_of_eq rfl) (hb hby at_40) (fun _ _ => ⟨rfl, e15, (by decide : 1 + 0 ≤ _), (by decide : 63 + 0 ≤ _)⟩)
  dsimp only [Pt.U, Pt.locs, Pt.cells, Pt.slots] at X20 l20 y20 z20 st20 hQ20
  subst l20 y20 z20
  obtain ⟨rfl, Nq20, e20⟩ := hQ20
  have N21 := Fr.app N16 Nq20
  have J22 : ∀ t, Steps p.tables e below (T20.setTop (mkF m 43 #[.val (.int p1), .val (.int p2), .val (.int (Int32.ofNat N)), .val (.ref b_4), .unset, .unset, .unset] [(.int (1 : Int32))])) t → Steps p.tables e below (s₁.setTop (entryFrame m #[(.int p1), (.int p2)] maxLocals)) t := fun t k => J19 t (st20 t k)
  have J23 : ∀ t, Steps p.tables e below (T20.setTop (mkF m 48 #[.val (.int p1), .val (.int p2), .val (.int (Int32.ofNat N)), .val (.ref b_4), .unset, .unset, .unset] [(.int (3 : Int32)), (.ref b_4)])) t → Steps p.tables e below (s₁.setTop (entryFrame m #[(.int p1), (.int p2)] maxLocals)) t := fun t k => J22 t (by
      show Steps p.tables e below (T20.setTop (mkF m 43 #[.val (.int p1), .val (.int p2), .val (.int (Int32.ofNat N)), .val (.ref b_4), .unset, .unset, .unset] [(.int (1 : Int32))])) _
      refine XS.ifNo X20.here hx rfl (hb hby at_43) rfl ((if0 _ _).trans (feq (by decide)).1) ?_
      show Steps p.tables e below (T20.setTop (mkF m 46 #[.val (.int p1), .val (.int p2), .val (.int (Int32.ofNat N)), .val (.ref b_4), .unset, .unset, .unset] [])) _
      refine XS.aloadN X20.here hx rfl (hb hby at_46) rfl rfl ?_
      show Steps p.tables e below (T20.setTop (mkF m 47 #[.val (.int p1), .val (.int p2), .val (.int (Int32.ofNat N)), .val (.ref b_4), .unset, .unset, .unset] [(.ref b_4)])) _
      refine XS.iconst X20.here hx rfl (hb hby at_47) ?_
      exact k)
  have J24 : ∀ t, Steps p.tables e below (T20.setTop (mkF m 48 #[.val (.int p1), .val (.int p2), .val (.int (Int32.ofNat N)), .val (.ref b_4), .unset, .unset, .unset] [(.int (Int32.ofNat 3)), (.ref b_4)])) t → Steps p.tables e below (s₁.setTop (entryFrame m #[(.int p1), (.int p2)] maxLocals)) t := J23
  obtain ⟨_, _, ⟨T25, L25, k25, n25⟩, -, X25, ⟨Lc25, hQ25, l25, y25, z25⟩, st25⟩ := Jvm.LawKit.callS X20 hx (y := (⟨"com/example/graded_flow/gradedflow/microscopic/LanesSameLanesPinLaw", "at", "([II)Z"⟩ : MethodName)) hown (mvT hZ (hw _ (List.mem_of_getElem? (i := 5) rfl))) (mvT hZ (hw _ (List.mem_of_getElem? (i := 6) rfl))) (mvT hZ (hw _ (List.mem_of_getElem? (i := 7) rfl))) (mvT hZ (hw _ (List.mem_of_getElem? (i := 8) rfl))) (by decide) (backOf (W := 0) (rm2 l Z a0 hw [] b_4 N 3 cl_4 T4.heap n0 Z7 p4_1 hN (by decide) p4_3 p4_4) hZ (hw _ (List.mem_of_getElem? (i := 8) rfl)) (hw _ (List.mem_of_getElem? (i := 7) rfl)) (by decide) (by decide)) (g := (mkF m 48 #[.val (.int p1), .val (.int p2), .val (.int (Int32.ofNat N)), .val (.ref b_4), .unset, .unset, .unset] [(.int (Int32.ofNat 3)), (.ref b_4)])) rfl (by rw [hml]; rfl) (argsL := [(.ref b_4), (.int (Int32.ofNat 3))]) (rest := []) (lenOf pd_1 rfl) rfl (by show 2 * 0 + _ ≤ _; exact Nat.le_of_eq rfl) (hb hby at_48) (fun _ _ => ⟨rfl, e20, (by decide : 1 + 0 ≤ _), (by decide : 63 + 0 ≤ _)⟩)
  dsimp only [Pt.U, Pt.locs, Pt.cells, Pt.slots] at X25 l25 y25 z25 st25 hQ25
  subst l25 y25 z25
  obtain ⟨rfl, Nq25, e25⟩ := hQ25
  have N26 := Fr.app N21 Nq25
  have J27 : ∀ t, Steps p.tables e below (T25.setTop (mkF m 51 #[.val (.int p1), .val (.int p2), .val (.int (Int32.ofNat N)), .val (.ref b_4), .unset, .unset, .unset] [(.int (1 : Int32))])) t → Steps p.tables e below (s₁.setTop (entryFrame m #[(.int p1), (.int p2)] maxLocals)) t := fun t k => J24 t (st25 t k)
  have J28 : ∀ t, Steps p.tables e below (T25.setTop (mkF m 56 #[.val (.int p1), .val (.int p2), .val (.int (Int32.ofNat N)), .val (.ref b_4), .unset, .unset, .unset] [(.int (4 : Int32)), (.ref b_4)])) t → Steps p.tables e below (s₁.setTop (entryFrame m #[(.int p1), (.int p2)] maxLocals)) t := fun t k => J27 t (by
      show Steps p.tables e below (T25.setTop (mkF m 51 #[.val (.int p1), .val (.int p2), .val (.int (Int32.ofNat N)), .val (.ref b_4), .unset, .unset, .unset] [(.int (1 : Int32))])) _
      refine XS.ifNo X25.here hx rfl (hb hby at_51) rfl ((if0 _ _).trans (feq (by decide)).1) ?_
      show Steps p.tables e below (T25.setTop (mkF m 54 #[.val (.int p1), .val (.int p2), .val (.int (Int32.ofNat N)), .val (.ref b_4), .unset, .unset, .unset] [])) _
      refine XS.aloadN X25.here hx rfl (hb hby at_54) rfl rfl ?_
      show Steps p.tables e below (T25.setTop (mkF m 55 #[.val (.int p1), .val (.int p2), .val (.int (Int32.ofNat N)), .val (.ref b_4), .unset, .unset, .unset] [(.ref b_4)])) _
      refine XS.iconst X25.here hx rfl (hb hby at_55) ?_
      exact k)
  have J29 : ∀ t, Steps p.tables e below (T25.setTop (mkF m 56 #[.val (.int p1), .val (.int p2), .val (.int (Int32.ofNat N)), .val (.ref b_4), .unset, .unset, .unset] [(.int (Int32.ofNat 4)), (.ref b_4)])) t → Steps p.tables e below (s₁.setTop (entryFrame m #[(.int p1), (.int p2)] maxLocals)) t := J28
  obtain ⟨_, _, ⟨T30, L30, k30, n30⟩, -, X30, ⟨Lc30, hQ30, l30, y30, z30⟩, st30⟩ := Jvm.LawKit.callS X25 hx (y := (⟨"com/example/graded_flow/gradedflow/microscopic/LanesSameLanesPinLaw", "at", "([II)Z"⟩ : MethodName)) hown (mvT hZ (hw _ (List.mem_of_getElem? (i := 5) rfl))) (mvT hZ (hw _ (List.mem_of_getElem? (i := 6) rfl))) (mvT hZ (hw _ (List.mem_of_getElem? (i := 7) rfl))) (mvT hZ (hw _ (List.mem_of_getElem? (i := 8) rfl))) (by decide) (backOf (W := 0) (rm2 l Z a0 hw [] b_4 N 4 cl_4 T4.heap n0 Z7 p4_1 hN (by decide) p4_3 p4_4) hZ (hw _ (List.mem_of_getElem? (i := 8) rfl)) (hw _ (List.mem_of_getElem? (i := 7) rfl)) (by decide) (by decide)) (g := (mkF m 56 #[.val (.int p1), .val (.int p2), .val (.int (Int32.ofNat N)), .val (.ref b_4), .unset, .unset, .unset] [(.int (Int32.ofNat 4)), (.ref b_4)])) rfl (by rw [hml]; rfl) (argsL := [(.ref b_4), (.int (Int32.ofNat 4))]) (rest := []) (lenOf pd_1 rfl) rfl (by show 2 * 0 + _ ≤ _; exact Nat.le_of_eq rfl) (hb hby at_56) (fun _ _ => ⟨rfl, e25, (by decide : 1 + 0 ≤ _), (by decide : 63 + 0 ≤ _)⟩)
  dsimp only [Pt.U, Pt.locs, Pt.cells, Pt.slots] at X30 l30 y30 z30 st30 hQ30
  subst l30 y30 z30
  obtain ⟨rfl, Nq30, e30⟩ := hQ30
  have N31 := Fr.app N26 Nq30
  have J32 : ∀ t, Steps p.tables e below (T30.setTop (mkF m 59 #[.val (.int p1), .val (.int p2), .val (.int (Int32.ofNat N)), .val (.ref b_4), .unset, .unset, .unset] [(.int (1 : Int32))])) t → Steps p.tables e below (s₁.setTop (entryFrame m #[(.int p1), (.int p2)] maxLocals)) t := fun t k => J29 t (st30 t k)
  have J33 : ∀ t, Steps p.tables e below (T30.setTop (mkF m 64 #[.val (.int p1), .val (.int p2), .val (.int (Int32.ofNat N)), .val (.ref b_4), .unset, .unset, .unset] [(.int (5 : Int32)), (.ref b_4)])) t → Steps p.tables e below (s₁.setTop (entryFrame m #[(.int p1), (.int p2)] maxLocals)) t := fun t k => J32 t (by
      show Steps p.tables e below (T30.setTop (mkF m 59 #[.val (.int p1), .val (.int p2), .val (.int (Int32.ofNat N)), .val (.ref b_4), .unset, .unset, .unset] [(.int (1 : Int32))])) _
      refine XS.ifNo X30.here hx rfl (hb hby at_59) rfl ((if0 _ _).trans (feq (by decide)).1) ?_
      show Steps p.tables e below (T30.setTop (mkF m 62 #[.val (.int p1), .val (.int p2), .val (.int (Int32.ofNat N)), .val (.ref b_4), .unset, .unset, .unset] [])) _
      refine XS.aloadN X30.here hx rfl (hb hby at_62) rfl rfl ?_
      show Steps p.tables e below (T30.setTop (mkF m 63 #[.val (.int p1), .val (.int p2), .val (.int (Int32.ofNat N)), .val (.ref b_4), .unset, .unset, .unset] [(.ref b_4)])) _
      refine XS.iconst X30.here hx rfl (hb hby at_63) ?_
      exact k)
  have J34 : ∀ t, Steps p.tables e below (T30.setTop (mkF m 64 #[.val (.int p1), .val (.int p2), .val (.int (Int32.ofNat N)), .val (.ref b_4), .unset, .unset, .unset] [(.int (Int32.ofNat 5)), (.ref b_4)])) t → Steps p.tables e below (s₁.setTop (entryFrame m #[(.int p1), (.int p2)] maxLocals)) t := J33
  obtain ⟨_, _, ⟨T35, L35, k35, n35⟩, -, X35, ⟨Lc35, hQ35, l35, y35, z35⟩, st35⟩ := Jvm.LawKit.callS X30 hx (y := (⟨"com/example/graded_flow/gradedflow/microscopic/LanesSameLanesPinLaw", "at", "([II)Z"⟩ : MethodName)) hown (mvT hZ (hw _ (List.mem_of_getElem? (i := 5) rfl))) (mvT hZ (hw _ (List.mem_of_getElem? (i := 6) rfl))) (mvT hZ (hw _ (List.mem_of_getElem? (i := 7) rfl))) (mvT hZ (hw _ (List.mem_of_getElem? (i := 8) rfl))) (by decide) (backOf (W := 0) (rm2 l Z a0 hw [] b_4 N 5 cl_4 T4.heap n0 Z7 p4_1 hN (by decide) p4_3 p4_4) hZ (hw _ (List.mem_of_getElem? (i := 8) rfl)) (hw _ (List.mem_of_getElem? (i := 7) rfl)) (by decide) (by decide)) (g := (mkF m 64 #[.val (.int p1), .val (.int p2), .val (.int (Int32.ofNat N)), .val (.ref b_4), .unset, .unset, .unset] [(.int (Int32.ofNat 5)), (.ref b_4)])) rfl (by rw [hml]; rfl) (argsL := [(.ref b_4), (.int (Int32.ofNat 5))]) (rest := []) (lenOf pd_1 rfl) rfl (by show 2 * 0 + _ ≤ _; exact Nat.le_of_eq rfl) (hb hby at_64) (fun _ _ => ⟨rfl, e30, (by decide : 1 + 0 ≤ _), (by decide : 63 + 0 ≤ _)⟩)
  dsimp only [Pt.U, Pt.locs, Pt.cells, Pt.slots] at X35 l35 y35 z35 st35 hQ35
  subst l35 y35 z35
  obtain ⟨rfl, Nq35, e35⟩ := hQ35
  have N36 := Fr.app N31 Nq35
  have J37 : ∀ t, Steps p.tables e below (T35.setTop (mkF m 67 #[.val (.int p1), .val (.int p2), .val (.int (Int32.ofNat N)), .val (.ref b_4), .unset, .unset, .unset] [(.int (1 : Int32))])) t → Steps p.tables e below (s₁.setTop (entryFrame m #[(.int p1), (.int p2)] maxLocals)) t := fun t k => J34 t (st35 t k)
  have J38 : ∀ t, Steps p.tables e below (T35.setTop (mkF m 73 #[.val (.int p1), .val (.int p2), .val (.int (Int32.ofNat N)), .val (.ref b_4), .unset, .unset, .unset] [(.int (6 : Int32)), (.ref b_4)])) t → Steps p.tables e below (s₁.setTop (entryFrame m #[(.int p1), (.int p2)] maxLocals)) t := fun t k => J37 t (by
      show Steps p.tables e below (T35.setTop (mkF m 67 #[.val (.int p1), .val (.int p2), .val (.int (Int32.ofNat N)), .val (.ref b_4), .unset, .unset, .unset] [(.int (1 : Int32))])) _
      refine XS.ifNo X35.here hx rfl (hb hby at_67) rfl ((if0 _ _).trans (feq (by decide)).1) ?_
      show Steps p.tables e below (T35.setTop (mkF m 70 #[.val (.int p1), .val (.int p2), .val (.int (Int32.ofNat N)), .val (.ref b_4), .unset, .unset, .unset] [])) _
      refine XS.aloadN X35.here hx rfl (hb hby at_70) rfl rfl ?_
      show Steps p.tables e below (T35.setTop (mkF m 71 #[.val (.int p1), .val (.int p2), .val (.int (Int32.ofNat N)), .val (.ref b_4), .unset, .unset, .unset] [(.ref b_4)])) _
      refine XS.bipush X35.here hx rfl (hb hby at_71) ?_
      exact k)
  have J39 : ∀ t, Steps p.tables e below (T35.setTop (mkF m 73 #[.val (.int p1), .val (.int p2), .val (.int (Int32.ofNat N)), .val (.ref b_4), .unset, .unset, .unset] [(.int (Int32.ofNat 6)), (.ref b_4)])) t → Steps p.tables e below (s₁.setTop (entryFrame m #[(.int p1), (.int p2)] maxLocals)) t := J38
  obtain ⟨_, _, ⟨T40, L40, k40, n40⟩, -, X40, ⟨Lc40, hQ40, l40, y40, z40⟩, st40⟩ := Jvm.LawKit.callS X35 hx (y := (⟨"com/example/graded_flow/gradedflow/microscopic/LanesSameLanesPinLaw", "at", "([II)Z"⟩ : MethodName)) hown (mvT hZ (hw _ (List.mem_of_getElem? (i := 5) rfl))) (mvT hZ (hw _ (List.mem_of_getElem? (i := 6) rfl))) (mvT hZ (hw _ (List.mem_of_getElem? (i := 7) rfl))) (mvT hZ (hw _ (List.mem_of_getElem? (i := 8) rfl))) (by decide) (backOf (W := 0) (rm2 l Z a0 hw [] b_4 N 6 cl_4 T4.heap n0 Z7 p4_1 hN (by decide) p4_3 p4_4) hZ (hw _ (List.mem_of_getElem? (i := 8) rfl)) (hw _ (List.mem_of_getElem? (i := 7) rfl)) (by decide) (by decide)) (g := (mkF m 73 #[.val (.int p1), .val (.int p2), .val (.int (Int32.ofNat N)), .val (.ref b_4), .unset, .unset, .unset] [(.int (Int32.ofNat 6)), (.ref b_4)])) rfl (by rw [hml]; rfl) (argsL := [(.ref b_4), (.int (Int32.ofNat 6))]) (rest := []) (lenOf pd_1 rfl) rfl (by show 2 * 0 + _ ≤ _; exact Nat.le_of_eq rfl) (hb hby at_73) (fun _ _ => ⟨rfl, e35, (by decide : 1 + 0 ≤ _), (by decide : 63 + 0 ≤ _)⟩)
  dsimp only [Pt.U, Pt.locs, Pt.cells, Pt.slots] at X40 l40 y40 z40 st40 hQ40
  subst l40 y40 z40
  obtain ⟨rfl, Nq40, e40⟩ := hQ40
  have N41 := Fr.app N36 Nq40
  have J42 : ∀ t, Steps p.tables e below (T40.setTop (mkF m 76 #[.val (.int p1), .val (.int p2), .val (.int (Int32.ofNat N)), .val (.ref b_4), .unset, .unset, .unset] [(.int (1 : Int32))])) t → Steps p.tables e below (s₁.setTop (entryFrame m #[(.int p1), (.int p2)] maxLocals)) t := fun t k => J39 t (st40 t k)
  have J43 : ∀ t, Steps p.tables e below (T40.setTop (mkF m 82 #[.val (.int p1), .val (.int p2), .val (.int (Int32.ofNat N)), .val (.ref b_4), .unset, .unset, .unset] [(.int (7 : Int32)), (.ref b_4)])) t → Steps p.tables e below (s₁.setTop (entryFrame m #[(.int p1), (.int p2)] maxLocals)) t := fun t k => J42 t (by
      show Steps p.tables e below (T40.setTop (mkF m 76 #[.val (.int p1), .val (.int p2), .val (.int (Int32.ofNat N)), .val (.ref b_4), .unset, .unset, .unset] [(.int (1 : Int32))])) _
      refine XS.ifNo X40.here hx rfl (hb hby at_76) rfl ((if0 _ _).trans (feq (by decide)).1) ?_
      show Steps p.tables e below (T40.setTop (mkF m 79 #[.val (.int p1), .val (.int p2), .val (.int (Int32.ofNat N)), .val (.ref b_4), .unset, .unset, .unset] [])) _
      refine XS.aloadN X40.here hx rfl (hb hby at_79) rfl rfl ?_
      show Steps p.tables e below (T40.setTop (mkF m 80 #[.val (.int p1), .val (.int p2), .val (.int (Int32.ofNat N)), .val (.ref b_4), .unset, .unset, .unset] [(.ref b_4)])) _
      refine XS.bipush X40.here hx rfl (hb hby at_80) ?_
      exact k)
  have J44 : ∀ t, Steps p.tables e below (T40.setTop (mkF m 82 #[.val (.int p1), .val (.int p2), .val (.int (Int32.ofNat N)), .val (.ref b_4), .unset, .unset, .unset] [(.int (Int32.ofNat 7)), (.ref b_4)])) t → Steps p.tables e below (s₁.setTop (entryFrame m #[(.int p1), (.int p2)] maxLocals)) t := J43
  obtain ⟨_, _, ⟨T45, L45, k45, n45⟩, -, X45, ⟨Lc45, hQ45, l45, y45, z45⟩, st45⟩ := Jvm.LawKit.callS X40 hx (y := (⟨"com/example/graded_flow/gradedflow/microscopic/LanesSameLanesPinLaw", "at", "([II)Z"⟩ : MethodName)) hown (mvT hZ (hw _ (List.mem_of_getElem? (i := 5) rfl))) (mvT hZ (hw _ (List.mem_of_getElem? (i := 6) rfl))) (mvT hZ (hw _ (List.mem_of_getElem? (i := 7) rfl))) (mvT hZ (hw _ (List.mem_of_getElem? (i := 8) rfl))) (by decide) (backOf (W := 0) (rm2 l Z a0 hw [] b_4 N 7 cl_4 T4.heap n0 Z7 p4_1 hN (by decide) p4_3 p4_4) hZ (hw _ (List.mem_of_getElem? (i := 8) rfl)) (hw _ (List.mem_of_getElem? (i := 7) rfl)) (by decide) (by decide)) (g := (mkF m 82 #[.val (.int p1), .val (.int p2), .val (.int (Int32.ofNat N)), .val (.ref b_4), .unset, .unset, .unset] [(.int (Int32.ofNat 7)), (.ref b_4)])) rfl (by rw [hml]; rfl) (argsL := [(.ref b_4), (.int (Int32.ofNat 7))]) (rest := []) (lenOf pd_1 rfl) rfl (by show 2 * 0 + _ ≤ _; exact Nat.le_of_eq rfl) (hb hby at_82) (fun _ _ => ⟨rfl, e40, (by decide : 1 + 0 ≤ _), (by decide : 63 + 0 ≤ _)⟩)
  dsimp only [Pt.U, Pt.locs, Pt.cells, Pt.slots] at X45 l45 y45 z45 st45 hQ45
  subst l45 y45 z45
  obtain ⟨rfl, Nq45, e45⟩ := hQ45
  have N46 := Fr.app N41 Nq45
  have J47 : ∀ t, Steps p.tables e below (T45.setTop (mkF m 85 #[.val (.int p1), .val (.int p2), .val (.int (Int32.ofNat N)), .val (.ref b_4), .unset, .unset, .unset] [(.int (1 : Int32))])) t → Steps p.tables e below (s₁.setTop (entryFrame m #[(.int p1), (.int p2)] maxLocals)) t := fun t k => J44 t (st45 t k)
  have J48 : ∀ t, Steps p.tables e below (T45.setTop (mkF m 96 #[.val (.int p1), .val (.int p2), .val (.int (Int32.ofNat N)), .val (.ref b_4), .val (.int (1 : Int32)), .unset, .unset] [(.int (Int32.ofNat N))])) t → Steps p.tables e below (s₁.setTop (entryFrame m #[(.int p1), (.int p2)] maxLocals)) t := fun t k => J47 t (by
      show Steps p.tables e below (T45.setTop (mkF m 85 #[.val (.int p1), .val (.int p2), .val (.int (Int32.ofNat N)), .val (.ref b_4), .unset, .unset, .unset] [(.int (1 : Int32))])) _
      refine XS.ifNo X45.here hx rfl (hb hby at_85) rfl ((if0 _ _).trans (feq (by decide)).1) ?_
      show Steps p.tables e below (T45.setTop (mkF m 88 #[.val (.int p1), .val (.int p2), .val (.int (Int32.ofNat N)), .val (.ref b_4), .unset, .unset, .unset] [])) _
      refine XS.iconst X45.here hx rfl (hb hby at_88) ?_
      show Steps p.tables e below (T45.setTop (mkF m 89 #[.val (.int p1), .val (.int p2), .val (.int (Int32.ofNat N)), .val (.ref b_4), .unset, .unset, .unset] [(.int (1 : Int32))])) _
      refine XS.goto X45.here hx rfl (pc0 := 89) (pc' := 93) rfl (hb hby at_89) (by decide) (by decide) ?_
      show Steps p.tables e below (T45.setTop (mkF m 93 #[.val (.int p1), .val (.int p2), .val (.int (Int32.ofNat N)), .val (.ref b_4), .unset, .unset, .unset] [(.int (1 : Int32))])) _
      refine XS.istore X45.here hx rfl (hb hby at_93) rfl (l' := #[.val (.int p1), .val (.int p2), .val (.int (Int32.ofNat N)), .val (.ref b_4), .val (.int (1 : Int32)), .unset, .unset]) rfl ?_
      show Steps p.tables e below (T45.setTop (mkF m 95 #[.val (.int p1), .val (.int p2), .val (.int (Int32.ofNat N)), .val (.ref b_4), .val (.int (1 : Int32)), .unset, .unset] [])) _
      refine XS.iloadN X45.here hx rfl (hb hby at_95) rfl ?_
      exact k)
  by_cases h0N : 0 < N
  ·
    have J50 : ∀ t, Steps p.tables e below (T45.setTop (mkF m 104 #[.val (.int p1), .val (.int p2), .val (.int (Int32.ofNat N)), .val (.ref b_4), .val (.int (1 : Int32)), .val (.int ((Int32.ofNat N) - (1 : Int32))), .unset] [])) t → Steps p.tables e below (s₁.setTop (entryFrame m #[(.int p1), (.int p2)] maxLocals)) t := fun t k => J48 t (by
        show Steps p.tables e below (T45.setTop (mkF m 96 #[.val (.int p1), .val (.int p2), .val (.int (Int32.ofNat N)), .val (.ref b_4), .val (.int (1 : Int32)), .unset, .unset] [(.int (Int32.ofNat N))])) _
        refine XS.ifNo X45.here hx rfl (hb hby at_96) rfl ((if0 _ _).trans (tlt (own_pos hN h0N)).2.2.2) ?_
        show Steps p.tables e below (T45.setTop (mkF m 99 #[.val (.int p1), .val (.int p2), .val (.int (Int32.ofNat N)), .val (.ref b_4), .val (.int (1 : Int32)), .unset, .unset] [])) _
        refine XS.iloadN X45.here hx rfl (hb hby at_99) rfl ?_
        show Steps p.tables e below (T45.setTop (mkF m 100 #[.val (.int p1), .val (.int p2), .val (.int (Int32.ofNat N)), .val (.ref b_4), .val (.int (1 : Int32)), .unset, .unset] [(.int (Int32.ofNat N))])) _
        refine XS.iconst X45.here hx rfl (hb hby at_100) ?_
        show Steps p.tables e below (T45.setTop (mkF m 101 #[.val (.int p1), .val (.int p2), .val (.int (Int32.ofNat N)), .val (.ref b_4), .val (.int (1 : Int32)), .unset, .unset] [(.int (1 : Int32)), (.int (Int32.ofNat N))])) _
        refine XS.isub X45.here hx rfl (hb hby at_101) rfl ?_
        show Steps p.tables e below (T45.setTop (mkF m 102 #[.val (.int p1), .val (.int p2), .val (.int (Int32.ofNat N)), .val (.ref b_4), .val (.int (1 : Int32)), .unset, .unset] [(.int ((Int32.ofNat N) - (1 : Int32)))])) _
        refine XS.istore X45.here hx rfl (hb hby at_102) rfl (l' := #[.val (.int p1), .val (.int p2), .val (.int (Int32.ofNat N)), .val (.ref b_4), .val (.int (1 : Int32)), .val (.int ((Int32.ofNat N) - (1 : Int32))), .unset]) rfl ?_
        exact k)
    obtain ⟨la, hla⟩ : ∃ z : Int32, z = ((Int32.ofNat N) - (1 : Int32)) := ⟨_, rfl⟩
    have J51 : ∀ t, Steps p.tables e below (T45.setTop (mkF m 104 #[.val (.int p1), .val (.int p2), .val (.int (Int32.ofNat N)), .val (.ref b_4), .val (.int (1 : Int32)), .val (.int la), .unset] [])) t → Steps p.tables e below (s₁.setTop (entryFrame m #[(.int p1), (.int p2)] maxLocals)) t := fun t k => J50 t (by subst hla; exact k)
    rw [own_pred h0N] at hla
    subst hla
    have J52 : ∀ t, Steps p.tables e below (T45.setTop (mkF m 133 #[.val (.int p1), .val (.int p2), .val (.int (Int32.ofNat N)), .val (.ref b_4), .val (.int (1 : Int32)), .val (.int (Int32.ofNat (N - 1))), .val (.int ((p2 &&& (2147483647 : Int32)) % (Int32.ofNat N)))] [])) t → Steps p.tables e below (s₁.setTop (entryFrame m #[(.int p1), (.int p2)] maxLocals)) t := fun t k => J51 t (by
        show Steps p.tables e below (T45.setTop (mkF m 104 #[.val (.int p1), .val (.int p2), .val (.int (Int32.ofNat N)), .val (.ref b_4), .val (.int (1 : Int32)), .val (.int (Int32.ofNat (N - 1))), .unset] [])) _
        refine XS.iload X45.here hx rfl (hb hby at_104) rfl ?_
        show Steps p.tables e below (T45.setTop (mkF m 106 #[.val (.int p1), .val (.int p2), .val (.int (Int32.ofNat N)), .val (.ref b_4), .val (.int (1 : Int32)), .val (.int (Int32.ofNat (N - 1))), .unset] [(.int (1 : Int32))])) _
        refine XS.ifNo X45.here hx rfl (hb hby at_106) rfl ((if0 _ _).trans (feq (by decide)).1) ?_
        show Steps p.tables e below (T45.setTop (mkF m 109 #[.val (.int p1), .val (.int p2), .val (.int (Int32.ofNat N)), .val (.ref b_4), .val (.int (1 : Int32)), .val (.int (Int32.ofNat (N - 1))), .unset] [])) _
        refine XS.aloadN X45.here hx rfl (hb hby at_109) rfl rfl ?_
        show Steps p.tables e below (T45.setTop (mkF m 110 #[.val (.int p1), .val (.int p2), .val (.int (Int32.ofNat N)), .val (.ref b_4), .val (.int (1 : Int32)), .val (.int (Int32.ofNat (N - 1))), .unset] [(.ref b_4)])) _
        refine XS.iload X45.here hx rfl (hb hby at_110) rfl ?_
        show Steps p.tables e below (T45.setTop (mkF m 112 #[.val (.int p1), .val (.int p2), .val (.int (Int32.ofNat N)), .val (.ref b_4), .val (.int (1 : Int32)), .val (.int (Int32.ofNat (N - 1))), .unset] [(.int (Int32.ofNat (N - 1))), (.ref b_4)])) _
        refine X45.iaload hx (j := (Int32.ofNat (N - 1))) (v := (.int (Int32.ofNat (N - 1)))) (by rw [e45]; exact p4_1.1) (State.isArrayOf_alike hZ.alike p4_1.2.1) p4_1.2.2 (own_inb p4_3 (Nat.sub_lt h0N (by decide)) hN) (own_at hN p4_4 (Nat.sub_lt h0N (by decide))) (g := (mkF m 112 #[.val (.int p1), .val (.int p2), .val (.int (Int32.ofNat N)), .val (.ref b_4), .val (.int (1 : Int32)), .val (.int (Int32.ofNat (N - 1))), .unset] [(.int (Int32.ofNat (N - 1))), (.ref b_4)])) rfl rfl (hb hby at_112) _ ?_
        show Steps p.tables e below (T45.setTop (mkF m 113 #[.val (.int p1), .val (.int p2), .val (.int (Int32.ofNat N)), .val (.ref b_4), .val (.int (1 : Int32)), .val (.int (Int32.ofNat (N - 1))), .unset] [(.int (Int32.ofNat (N - 1)))])) _
        refine XS.iload X45.here hx rfl (hb hby at_113) rfl ?_
        show Steps p.tables e below (T45.setTop (mkF m 115 #[.val (.int p1), .val (.int p2), .val (.int (Int32.ofNat N)), .val (.ref b_4), .val (.int (1 : Int32)), .val (.int (Int32.ofNat (N - 1))), .unset] [(.int (Int32.ofNat (N - 1))), (.int (Int32.ofNat (N - 1)))])) _
        refine XS.icmpNo X45.here hx rfl (hb hby at_115) rfl (teq rfl).2 ?_
        show Steps p.tables e below (T45.setTop (mkF m 118 #[.val (.int p1), .val (.int p2), .val (.int (Int32.ofNat N)), .val (.ref b_4), .val (.int (1 : Int32)), .val (.int (Int32.ofNat (N - 1))), .unset] [])) _
        refine XS.iconst X45.here hx rfl (hb hby at_118) ?_
        show Steps p.tables e below (T45.setTop (mkF m 119 #[.val (.int p1), .val (.int p2), .val (.int (Int32.ofNat N)), .val (.ref b_4), .val (.int (1 : Int32)), .val (.int (Int32.ofNat (N - 1))), .unset] [(.int (1 : Int32))])) _
        refine XS.goto X45.here hx rfl (pc0 := 119) (pc' := 123) rfl (hb hby at_119) (by decide) (by decide) ?_
        show Steps p.tables e below (T45.setTop (mkF m 123 #[.val (.int p1), .val (.int p2), .val (.int (Int32.ofNat N)), .val (.ref b_4), .val (.int (1 : Int32)), .val (.int (Int32.ofNat (N - 1))), .unset] [(.int (1 : Int32))])) _
        refine XS.istore X45.here hx rfl (hb hby at_123) rfl (l' := #[.val (.int p1), .val (.int p2), .val (.int (Int32.ofNat N)), .val (.ref b_4), .val (.int (1 : Int32)), .val (.int (Int32.ofNat (N - 1))), .unset]) rfl ?_
        show Steps p.tables e below (T45.setTop (mkF m 125 #[.val (.int p1), .val (.int p2), .val (.int (Int32.ofNat N)), .val (.ref b_4), .val (.int (1 : Int32)), .val (.int (Int32.ofNat (N - 1))), .unset] [])) _
        refine XS.iloadN X45.here hx rfl (hb hby at_125) rfl ?_
        show Steps p.tables e below (T45.setTop (mkF m 126 #[.val (.int p1), .val (.int p2), .val (.int (Int32.ofNat N)), .val (.ref b_4), .val (.int (1 : Int32)), .val (.int (Int32.ofNat (N - 1))), .unset] [(.int p2)])) _
        refine X45.ldcInt hx hown (mvT hZ (hw _ (List.mem_of_getElem? (i := 9) rfl))) (g := (mkF m 126 #[.val (.int p1), .val (.int p2), .val (.int (Int32.ofNat N)), .val (.ref b_4), .val (.int (1 : Int32)), .val (.int (Int32.ofNat (N - 1))), .unset] [(.int p2)])) rfl (hb hby at_126) _ ?_
        show Steps p.tables e below (T45.setTop (mkF m 128 #[.val (.int p1), .val (.int p2), .val (.int (Int32.ofNat N)), .val (.ref b_4), .val (.int (1 : Int32)), .val (.int (Int32.ofNat (N - 1))), .unset] [(.int (2147483647 : Int32)), (.int p2)])) _
        refine XS.iand X45.here hx rfl (hb hby at_128) rfl ?_
        show Steps p.tables e below (T45.setTop (mkF m 129 #[.val (.int p1), .val (.int p2), .val (.int (Int32.ofNat N)), .val (.ref b_4), .val (.int (1 : Int32)), .val (.int (Int32.ofNat (N - 1))), .unset] [(.int (p2 &&& (2147483647 : Int32)))])) _
        refine XS.iloadN X45.here hx rfl (hb hby at_129) rfl ?_
        show Steps p.tables e below (T45.setTop (mkF m 130 #[.val (.int p1), .val (.int p2), .val (.int (Int32.ofNat N)), .val (.ref b_4), .val (.int (1 : Int32)), .val (.int (Int32.ofNat (N - 1))), .unset] [(.int (Int32.ofNat N)), (.int (p2 &&& (2147483647 : Int32)))])) _
        refine iremM X45 hx rfl (hb hby at_130) rfl (own_nz hN h0N) ?_
        show Steps p.tables e below (T45.setTop (mkF m 131 #[.val (.int p1), .val (.int p2), .val (.int (Int32.ofNat N)), .val (.ref b_4), .val (.int (1 : Int32)), .val (.int (Int32.ofNat (N - 1))), .unset] [(.int ((p2 &&& (2147483647 : Int32)) % (Int32.ofNat N)))])) _
        refine XS.istore X45.here hx rfl (hb hby at_131) rfl (l' := #[.val (.int p1), .val (.int p2), .val (.int (Int32.ofNat N)), .val (.ref b_4), .val (.int (1 : Int32)), .val (.int (Int32.ofNat (N - 1))), .val (.int ((p2 &&& (2147483647 : Int32)) % (Int32.ofNat N)))]) rfl ?_
        exact k)
    obtain ⟨pp, hpp⟩ : ∃ z : Int32, z = ((p2 &&& (2147483647 : Int32)) % (Int32.ofNat N)) := ⟨_, rfl⟩
    have J53 : ∀ t, Steps p.tables e below (T45.setTop (mkF m 133 #[.val (.int p1), .val (.int p2), .val (.int (Int32.ofNat N)), .val (.ref b_4), .val (.int (1 : Int32)), .val (.int (Int32.ofNat (N - 1))), .val (.int pp)] [])) t → Steps p.tables e below (s₁.setTop (entryFrame m #[(.int p1), (.int p2)] maxLocals)) t := fun t k => J52 t (by subst hpp; exact k)
    obtain ⟨j, hj, rfl⟩ := own_probe p2 pp hN h0N hpp
    have J54 : ∀ t, Steps p.tables e below (T45.setTop (mkF m 156 #[.val (.int p1), .val (.int p2), .val (.int (Int32.ofNat N)), .val (.ref b_4), .val (.int (1 : Int32)), .val (.int (Int32.ofNat (N - 1))), .val (.int (Int32.ofNat j))] [(.int (1 : Int32))])) t → Steps p.tables e below (s₁.setTop (entryFrame m #[(.int p1), (.int p2)] maxLocals)) t := fun t k => J53 t (by
        show Steps p.tables e below (T45.setTop (mkF m 133 #[.val (.int p1), .val (.int p2), .val (.int (Int32.ofNat N)), .val (.ref b_4), .val (.int (1 : Int32)), .val (.int (Int32.ofNat (N - 1))), .val (.int (Int32.ofNat j))] [])) _
        refine XS.iload X45.here hx rfl (hb hby at_133) rfl ?_
        show Steps p.tables e below (T45.setTop (mkF m 135 #[.val (.int p1), .val (.int p2), .val (.int (Int32.ofNat N)), .val (.ref b_4), .val (.int (1 : Int32)), .val (.int (Int32.ofNat (N - 1))), .val (.int (Int32.ofNat j))] [(.int (1 : Int32))])) _
        refine XS.ifNo X45.here hx rfl (hb hby at_135) rfl ((if0 _ _).trans (feq (by decide)).1) ?_
        show Steps p.tables e below (T45.setTop (mkF m 138 #[.val (.int p1), .val (.int p2), .val (.int (Int32.ofNat N)), .val (.ref b_4), .val (.int (1 : Int32)), .val (.int (Int32.ofNat (N - 1))), .val (.int (Int32.ofNat j))] [])) _
        refine XS.aloadN X45.here hx rfl (hb hby at_138) rfl rfl ?_
        show Steps p.tables e below (T45.setTop (mkF m 139 #[.val (.int p1), .val (.int p2), .val (.int (Int32.ofNat N)), .val (.ref b_4), .val (.int (1 : Int32)), .val (.int (Int32.ofNat (N - 1))), .val (.int (Int32.ofNat j))] [(.ref b_4)])) _
        refine XS.iload X45.here hx rfl (hb hby at_139) rfl ?_
        show Steps p.tables e below (T45.setTop (mkF m 141 #[.val (.int p1), .val (.int p2), .val (.int (Int32.ofNat N)), .val (.ref b_4), .val (.int (1 : Int32)), .val (.int (Int32.ofNat (N - 1))), .val (.int (Int32.ofNat j))] [(.int (Int32.ofNat j)), (.ref b_4)])) _
        refine X45.iaload hx (j := (Int32.ofNat j)) (v := (.int (Int32.ofNat j))) (by rw [e45]; exact p4_1.1) (State.isArrayOf_alike hZ.alike p4_1.2.1) p4_1.2.2 (own_inb p4_3 hj hN) (own_at hN p4_4 hj) (g := (mkF m 141 #[.val (.int p1), .val (.int p2), .val (.int (Int32.ofNat N)), .val (.ref b_4), .val (.int (1 : Int32)), .val (.int (Int32.ofNat (N - 1))), .val (.int (Int32.ofNat j))] [(.int (Int32.ofNat j)), (.ref b_4)])) rfl rfl (hb hby at_141) _ ?_
        show Steps p.tables e below (T45.setTop (mkF m 142 #[.val (.int p1), .val (.int p2), .val (.int (Int32.ofNat N)), .val (.ref b_4), .val (.int (1 : Int32)), .val (.int (Int32.ofNat (N - 1))), .val (.int (Int32.ofNat j))] [(.int (Int32.ofNat j))])) _
        refine XS.iload X45.here hx rfl (hb hby at_142) rfl ?_
        show Steps p.tables e below (T45.setTop (mkF m 144 #[.val (.int p1), .val (.int p2), .val (.int (Int32.ofNat N)), .val (.ref b_4), .val (.int (1 : Int32)), .val (.int (Int32.ofNat (N - 1))), .val (.int (Int32.ofNat j))] [(.int (Int32.ofNat j)), (.int (Int32.ofNat j))])) _
        refine XS.icmpNo X45.here hx rfl (hb hby at_144) rfl (teq rfl).2 ?_
        show Steps p.tables e below (T45.setTop (mkF m 147 #[.val (.int p1), .val (.int p2), .val (.int (Int32.ofNat N)), .val (.ref b_4), .val (.int (1 : Int32)), .val (.int (Int32.ofNat (N - 1))), .val (.int (Int32.ofNat j))] [])) _
        refine XS.iconst X45.here hx rfl (hb hby at_147) ?_
        show Steps p.tables e below (T45.setTop (mkF m 148 #[.val (.int p1), .val (.int p2), .val (.int (Int32.ofNat N)), .val (.ref b_4), .val (.int (1 : Int32)), .val (.int (Int32.ofNat (N - 1))), .val (.int (Int32.ofNat j))] [(.int (1 : Int32))])) _
        refine XS.goto X45.here hx rfl (pc0 := 148) (pc' := 152) rfl (hb hby at_148) (by decide) (by decide) ?_
        show Steps p.tables e below (T45.setTop (mkF m 152 #[.val (.int p1), .val (.int p2), .val (.int (Int32.ofNat N)), .val (.ref b_4), .val (.int (1 : Int32)), .val (.int (Int32.ofNat (N - 1))), .val (.int (Int32.ofNat j))] [(.int (1 : Int32))])) _
        refine XS.istore X45.here hx rfl (hb hby at_152) rfl (l' := #[.val (.int p1), .val (.int p2), .val (.int (Int32.ofNat N)), .val (.ref b_4), .val (.int (1 : Int32)), .val (.int (Int32.ofNat (N - 1))), .val (.int (Int32.ofNat j))]) rfl ?_
        show Steps p.tables e below (T45.setTop (mkF m 154 #[.val (.int p1), .val (.int p2), .val (.int (Int32.ofNat N)), .val (.ref b_4), .val (.int (1 : Int32)), .val (.int (Int32.ofNat (N - 1))), .val (.int (Int32.ofNat j))] [])) _
        refine XS.iload X45.here hx rfl (hb hby at_154) rfl ?_
        exact k)
    obtain ⟨fs, hr, hrun, hended, hW, hsame⟩ := X45.leave (v := some (.int (1 : Int32))) (fun h => by rw [Bd.returns] at h; cases h)
    refine ⟨_, _, J54 _ ?_, hrun, hended, _, _, rfl, ?_, ⟨_, rfl⟩, hW, hsame.mono (by decide) (by decide)⟩
    · show Steps p.tables e below (T45.setTop (mkF m 156 #[.val (.int p1), .val (.int p2), .val (.int (Int32.ofNat N)), .val (.ref b_4), .val (.int (1 : Int32)), .val (.int (Int32.ofNat (N - 1))), .val (.int (Int32.ofNat j))] [(.int (1 : Int32))])) _
      exact retN X45 hx (t := .boolean) Bd.returns (by simp) (hb hby at_156) hr
    · show Q0 Z p1 p2 h0 n0 _ T45.heap _
      rw [e45]
      exact ⟨rfl, N46⟩
  ·
    have J49 : ∀ t, Steps p.tables e below (T45.setTop (mkF m 156 #[.val (.int p1), .val (.int p2), .val (.int (Int32.ofNat N)), .val (.ref b_4), .val (.int (1 : Int32)), .unset, .unset] [(.int (1 : Int32))])) t → Steps p.tables e below (s₁.setTop (entryFrame m #[(.int p1), (.int p2)] maxLocals)) t := fun t k => J48 t (by
        show Steps p.tables e below (T45.setTop (mkF m 96 #[.val (.int p1), .val (.int p2), .val (.int (Int32.ofNat N)), .val (.ref b_4), .val (.int (1 : Int32)), .unset, .unset] [(.int (Int32.ofNat N))])) _
        refine XS.ifYes X45.here hx rfl (pc0 := 96) (pc' := 154) rfl (hb hby at_96) rfl ((if0 _ _).trans (flt (own_nlt (Nat.le_of_not_lt h0N) (by decide))).2.2.2) (by decide) (by decide) ?_
        show Steps p.tables e below (T45.setTop (mkF m 154 #[.val (.int p1), .val (.int p2), .val (.int (Int32.ofNat N)), .val (.ref b_4), .val (.int (1 : Int32)), .unset, .unset] [])) _
        refine XS.iload X45.here hx rfl (hb hby at_154) rfl ?_
        exact k)
    obtain ⟨fs, hr, hrun, hended, hW, hsame⟩ := X45.leave (v := some (.int (1 : Int32))) (fun h => by rw [Bd.returns] at h; cases h)
    refine ⟨_, _, J49 _ ?_, hrun, hended, _, _, rfl, ?_, ⟨_, rfl⟩, hW, hsame.mono (by decide) (by decide)⟩
    · show Steps p.tables e below (T45.setTop (mkF m 156 #[.val (.int p1), .val (.int p2), .val (.int (Int32.ofNat N)), .val (.ref b_4), .val (.int (1 : Int32)), .unset, .unset] [(.int (1 : Int32))])) _
      exact retN X45 hx (t := .boolean) Bd.returns (by simp) (hb hby at_156) hr
    · show Q0 Z p1 p2 h0 n0 _ T45.heap _
      rw [e45]
      exact ⟨rfl, N46⟩
set_option maxRecDepth 65536 in
set_option maxHeartbeats 40000000 in
theorem comes_1 {Post : Tables → Env → Array Value → State → Outcome → State → Prop} (hpost : ∀ tb e args s v u, (limb_1_1.after args s (.returned v) u = true ∧ limb_1_2.after args s (.returned v) u = true ∧ True) → FrameEnd s (.returned v) u (Jvm.fieldLocs frame_1_writes args s ++ Jvm.arrayLocs frame_1_arrays args s ++ Jvm.staticLocs frame_1_statics s) 16 192 → Post tb e args s (.returned v) u) :
    ArmFor flags0 classFile x code maxLocals ret World_1 tables_1 room_1 Calls_1 rest_1 Pre_1 Post := by
  intro l hfl _ _ p e ha hc hk s m args below hf hA hF happ hP
  obtain ⟨hcalls, hrest, hpre⟩ := hP
  obtain ⟨-, -, -, hnamed, -, -, -, hat⟩ := (Spec.applies_iff hf).mp happ
  obtain ⟨hg, hn⟩ := and_e (Cond.before_iff.mp (show (Jvm.Cond.and given_1 narrow_1).before args s = true from hpre))
  obtain ⟨hcount, hg0⟩ := and_e hg
  obtain ⟨ga0, hg1⟩ := and_e hg0
  obtain ⟨w0, w1, rfl⟩ : ∃ w0 w1 : Value, args = #[w0, w1] := by
    have hs : args.size = 2 := by simpa [Cond.value, given_1] using hcount
    obtain ⟨L⟩ := args
    match L, hs with
    | [w0, w1], _ => exact ⟨w0, w1, rfl⟩
  have hw := fun d (hd : d ∈ tables_1) => atoms_spec (ws := Jvm.Cond.code x code maxLocals ret :: tables_1) hat d (List.mem_cons_of_mem _ hd)
  have hfit : Fit s := fun {y c} hc i hi => by
    obtain ⟨ha, rfl⟩ := Array.getElem?_eq_some_iff.mp hc
    have q := List.all_eq_true.mp ((Array.all_eq_true_iff_forall_mem.mp hF) _ (Array.getElem_mem ha)) i (List.mem_range.mpr hi)
    simpa [Array.getElem?_eq_getElem hi] using q
  obtain ⟨i0, ei0⟩ := is_v ga0
  obtain rfl : w0 = (.int i0) := Option.some.inj ei0
  obtain ⟨i1, ei1⟩ := is_v hg1
  obtain rfl : w1 = (.int i1) := Option.some.inj ei1
  obtain ⟨n, o, h1, h2, h3, _, L, rfl, ⟨rfl, N⟩, hq⟩ := rm0 l s _ hw tables_1 i0 i1 s.heap s.heap.size (Nat.le_refl _)  p e ha hc hk s m _ below hf ((Spec.applies_iff_loose hf).mp happ).1 ⟨rfl, State.Warmed39.refl s, rfl⟩ trivial
  refine ⟨n, _, h1, h2, h3, hpost _ _ _ _ _ _ ⟨Cond.after_iff.mpr rfl, Cond.after_iff.mpr (eq_i res_at (Term.int_eval (1)) rfl), trivial⟩ ⟨hq.1, hq.2.1, (hq.2.2.sift fun y hy => Or.inr (N y hy)).mono (by decide) (by decide)⟩⟩
theorem main_1_1 : Claimed_1_1 := comes_1 fun _ _ _ _ _ _ h hF => ⟨h.1, hF⟩
theorem main_1_2 : Claimed_1_2 := comes_1 fun _ _ _ _ _ _ h hF => ⟨h.2.1, hF⟩
end Jvm.Pilot.@@N@@
namespace Jvm.Pilot.@@N@@
open Jvm Jvm.ClassFile Sem Op Lib Jvm.Free Jvm.Stand Jvm.Pilot.@@N@@.Jvm.D
/-! MADE BY PROGRAM (witnessworld.py) out of the Statement's table words and the real class files: 9 classes; the members and pool entries that the words name. The judged class is class 1, her method 1. -/
namespace start1
open Jvm.ClassFile
def u (s : String) : CpInfo := .utf8 (stringToUtf16 s)
/-- a pool by its gaps: so many unusable entries, then the entry; so many at the end -/
def gap : Nat → List CpInfo → List CpInfo
  | 0, r => r
  | n + 1, r => .unusable :: gap n r
def poolList (es : List (Nat × CpInfo)) (last : Nat) : List CpInfo := es.foldr (fun e r => gap e.1 (e.2 :: r)) (gap last [])
def pool (es : List (Nat × CpInfo)) (last : Nat) : Array CpInfo := ⟨poolList es last⟩
def fileOf (pool : Array CpInfo) (this : Nat) (attrs : Array Attribute := #[]) (ms : Array MethodInfo := #[]) (fl : Nat := 33) (sup : Nat := 0) (ifs : Array Nat := #[]) (fds : Array FieldInfo := #[]) : ClassFile where
  minorVersion := 0
  majorVersion := 65
  constantPool := pool
  accessFlags := fl
  thisClass := this
  superClass := sup
  interfaces := ifs
  fields := fds
  methods := ms
  attributes := attrs
def plain (name : String) (sup : Option ClassId) : Class where
  name := name
  kind := .ordinary
  loader := none
  accessFlags := 33
  super := sup
  interfaces := #[]
  cf := none
  fields := #[]
  methods := #[]
  instanceTypes := #[]
  staticTypes := #[]
  resolved := #[]
  callSites := []
  init := .initialized
  statics := none
  mirror := none

def pool0 : Array CpInfo := pool [(5, u "<init>"), (0, u "()V"), (1, .class_ 10), (1, u "java/lang/Object")] 113

def k0m0 : Method := { name := "<init>", desc := "()V", sig := { parameters := [], returnType := none }, accessFlags := 1, code := none }
/-- java/lang/Object -/
def k0 : Class := { plain "java/lang/Object" none with
  accessFlags := 33
  interfaces := #[]
  cf := some (fileOf pool0 8 #[] #[{ accessFlags := 1, nameIndex := 5, descriptorIndex := 6, attributes := #[] }] 33 0 #[] #[])
  fields := #[]
  methods := #[k0m0]
  instanceTypes := #[]
  staticTypes := #[]
  resolved := Array.replicate 124 none
  statics := none }

def pool1 : Array CpInfo := pool [(2, .class_ 4), (1, u "java/lang/Object"), (0, u "<init>"), (0, u "()V"), (0, .methodref 8 9), (0, .class_ 10), (0, .nameAndType 11 12), (0, u "com/example/graded_flow/gradedflow/microscopic/Lanes"), (0, u "sameLanes"), (0, u "(I)[I"), (0, .methodref 14 15), (0, .class_ 16), (0, .nameAndType 17 18), (0, u "com/example/graded_flow/gradedflow/microscopic/LanesSameLanesPinLaw"), (0, u "at"), (0, u "([II)Z"), (0, .integer 2147483647), (2, u "law"), (0, u "(II)Z")] 5

def k1m0 : Method := { name := "<init>", desc := "()V", sig := { parameters := [], returnType := none }, accessFlags := 1, code := none }
def k1c1 : Code := { maxStack := 2, maxLocals := 7, code := code, exceptionTable := #[], attributes := #[] }
def k1m1 : Method := { name := "law", desc := "(II)Z", sig := { parameters := [.int, .int], returnType := some .boolean }, accessFlags := 9, code := some k1c1 }
def k1c2 : Code := { maxStack := 2, maxLocals := 2, code := method_3_code, exceptionTable := #[], attributes := #[] }
def k1m2 : Method := { name := "at", desc := "([II)Z", sig := { parameters := [(.array .int), .int], returnType := some .boolean }, accessFlags := 10, code := some k1c2 }
/-- com/example/graded_flow/gradedflow/microscopic/LanesSameLanesPinLaw -/
def k1 : Class := { plain "com/example/graded_flow/gradedflow/microscopic/LanesSameLanesPinLaw" (some 0) with
  accessFlags := 49
  interfaces := #[]
  cf := some (fileOf pool1 14 #[] #[{ accessFlags := 1, nameIndex := 5, descriptorIndex := 6, attributes := #[] }, { accessFlags := 9, nameIndex := 22, descriptorIndex := 23, attributes := #[] }, { accessFlags := 10, nameIndex := 17, descriptorIndex := 18, attributes := #[] }] 49 2 #[] #[])
  fields := #[]
  methods := #[k1m0, k1m1, k1m2]
  instanceTypes := #[]
  staticTypes := #[]
  resolved := Array.replicate 29 none
  statics := none }

def pool2 : Array CpInfo := pool [(2, .class_ 4), (1, u "java/lang/Object"), (6, .class_ 13), (1, u "com/example/graded_flow/gradedflow/microscopic/Lanes"), (0, u "lines"), (0, u "Ljava/util/List;"), (2, u "link"), (0, u "Lcom/example/graded_flow/gradedflow/network/Link;"), (14, u "cells"), (0, u "Lcom/example/graded_flow/gradedflow/microscopic/StretchCells;"), (14, u "roadSpeed"), (0, u "D"), (2, u "sameLanes"), (0, u "(I)[I"), (2, u "onwardLanes"), (0, u "[I"), (10, u "upstream"), (0, u "Lcom/example/graded_flow/gradedflow/microscopic/Lanes;"), (9, u "count"), (0, u "I"), (138, .class_ 222), (0, u "com/example/graded_flow/gradedflow/microscopic/Lanes$Approach"), (10, .class_ 234), (0, u "com/example/graded_flow/gradedflow/microscopic/Lanes$Pass"), (100, .class_ 337), (1, u "com/example/graded_flow/gradedflow/microscopic/Lanes$Prospect")] 91

def k2c0 : Code := { maxStack := 3, maxLocals := 3, code := prog_12_method_2_code, exceptionTable := #[], attributes := #[] }
def k2m0 : Method := { name := "sameLanes", desc := "(I)[I", sig := { parameters := [.int], returnType := some (.array .int) }, accessFlags := 8, code := some k2c0 }
/-- com/example/graded_flow/gradedflow/microscopic/Lanes -/
def k2 : Class := { plain "com/example/graded_flow/gradedflow/microscopic/Lanes" (some 0) with
  accessFlags := 32
  interfaces := #[]
  cf := some (fileOf pool2 11 #[.nestMembers #[221, 233, 335]] #[{ accessFlags := 8, nameIndex := 54, descriptorIndex := 55, attributes := #[] }] 32 2 #[] #[{ accessFlags := 18, nameIndex := 18, descriptorIndex := 19, attributes := #[] }, { accessFlags := 18, nameIndex := 14, descriptorIndex := 15, attributes := #[] }, { accessFlags := 18, nameIndex := 34, descriptorIndex := 35, attributes := #[] }, { accessFlags := 18, nameIndex := 50, descriptorIndex := 51, attributes := #[] }, { accessFlags := 2, nameIndex := 58, descriptorIndex := 59, attributes := #[] }, { accessFlags := 2, nameIndex := 70, descriptorIndex := 71, attributes := #[] }, { accessFlags := 2, nameIndex := 81, descriptorIndex := 82, attributes := #[] }])
  fields := #[{ name := "link", type := (.object "com/example/graded_flow/gradedflow/network/Link"), accessFlags := 18, slot := 0, constantValue := 0 }, { name := "lines", type := (.object "java/util/List"), accessFlags := 18, slot := 1, constantValue := 0 }, { name := "cells", type := (.object "com/example/graded_flow/gradedflow/microscopic/StretchCells"), accessFlags := 18, slot := 2, constantValue := 0 }, { name := "roadSpeed", type := .double, accessFlags := 18, slot := 3, constantValue := 0 }, { name := "onwardLanes", type := (.array .int), accessFlags := 2, slot := 4, constantValue := 0 }, { name := "upstream", type := (.object "com/example/graded_flow/gradedflow/microscopic/Lanes"), accessFlags := 2, slot := 5, constantValue := 0 }, { name := "count", type := .int, accessFlags := 2, slot := 6, constantValue := 0 }]
  methods := #[k2m0]
  instanceTypes := #[(.object "com/example/graded_flow/gradedflow/network/Link"), (.object "java/util/List"), (.object "com/example/graded_flow/gradedflow/microscopic/StretchCells"), .double, (.array .int), (.object "com/example/graded_flow/gradedflow/microscopic/Lanes"), .int]
  staticTypes := #[]
  resolved := Array.replicate 429 none
  statics := none }

def pool3 : Array CpInfo := pool [(1, u "java/lang/Cloneable"), (0, .class_ 1), (0, u "java/lang/Object"), (0, .class_ 3)] 3

/-- java/lang/Cloneable -/
def k3 : Class := { plain "java/lang/Cloneable" (some 0) with
  accessFlags := 1537
  interfaces := #[]
  cf := some (fileOf pool3 2 #[] #[] 1537 4 #[] #[])
  fields := #[]
  methods := #[]
  instanceTypes := #[]
  staticTypes := #[]
  resolved := Array.replicate 8 none
  statics := none }

def pool4 : Array CpInfo := pool [(1, u "java/io/Serializable"), (0, .class_ 1), (0, u "java/lang/Object"), (0, .class_ 3)] 3

/-- java/io/Serializable -/
def k4 : Class := { plain "java/io/Serializable" (some 0) with
  accessFlags := 1537
  interfaces := #[]
  cf := some (fileOf pool4 2 #[] #[] 1537 4 #[] #[])
  fields := #[]
  methods := #[]
  instanceTypes := #[]
  staticTypes := #[]
  resolved := Array.replicate 8 none
  statics := none }

/-- the primitive byte -/
def k5 : Class := { plain "byte" none with kind := .primitive 'B', accessFlags := 0x411 }
/-- [B -/
def k6 : Class := { plain "[B" (some 0) with kind := .array 5 .byte, interfaces := #[3, 4], accessFlags := 1041 }

/-- the primitive int -/
def k7 : Class := { plain "int" none with kind := .primitive 'I', accessFlags := 0x411 }
/-- [I -/
def k8 : Class := { plain "[I" (some 0) with kind := .array 7 .int, interfaces := #[3, 4], accessFlags := 1041 }

def heap : Heap := #[]
def classes : Array Class := #[k0, k1, k2, k3, k4, k5, k6, k7, k8]
def interned : List (Array UInt16 × Addr) := []
def slotsUsed : Nat := 0
def theMethod : MethodId := ⟨1, 1⟩
def args0 : Array Value := #[.int 5, .int 6]
def aboutOver (below : List Frame) : State where
  vm := { classes := classes, interned := interned.toArray }
  heap := heap
  slotsUsed := slotsUsed
  threads := #[{ frames := .invoking theMethod args0 :: below }]
def below0 : List Frame := [.native { method := ⟨0, 0⟩, args := #[] }]
def about1 : State := aboutOver below0
def p0 : Program := .bare "" "" ""
def e0 : Env := launch0.env 0 0 0
theorem w_frames : about1.frames = Frame.invoking theMethod args0 :: below0 := rfl
set_option maxRecDepth 65536 in
theorem w_args : argsFit about1.vm theMethod args0 = true := by decide +kernel
set_option maxRecDepth 65536 in
theorem w_heap : heapFits about1 = true := by decide +kernel
set_option maxRecDepth 65536 in
theorem w_runnable : about1.curStatus? = some .runnable := by decide +kernel
set_option maxRecDepth 65536 in
theorem w_alone : about1.alone = true := by decide +kernel
set_option maxRecDepth 65536 in
theorem w_named : about1.methodNamed? x = some theMethod := by decide +kernel
set_option maxRecDepth 65536 in
theorem w_hears : about1.hears theMethod below0 = true := by decide +kernel
set_option maxRecDepth 65536 in
theorem w_ripe : about1.ripe theMethod args0 below0 = true := by decide +kernel
theorem w_running : about1.status = .running := rfl
set_option maxRecDepth 65536 in
theorem w_room : about1.hasRoom e0.platform room_1 = true :=
  launch0.hasRoom_least _ room_1 (by decide +kernel) (by decide +kernel) (by decide +kernel) (by decide +kernel) (by decide +kernel) (by decide +kernel)
theorem allAtoms_all (ts : List Jvm.Cond) (a : Array Jvm.Value) (st : Jvm.State) : (allAtoms ts).before a st = ts.all (fun c => c.before a st) := by
  induction ts with
  | nil => rfl
  | cons c t ih =>
    show (Jvm.Cond.and c (allAtoms t)).before a st = _
    rw [Jvm.Cond.before_and, ih, List.all_cons]
def words1 : List Jvm.Cond := Jvm.Cond.code x code maxLocals ret :: tables_1
/-- a 'code' word, met by the world's own term for the bytes: nothing is compared byte by byte -/
theorem code_word {y : MethodName} {bytes : ByteArray} {mx : Nat} {rt : Option FieldType} {a : Array Value} {s : State} {m : MethodId} {meth : Method} {c : Code} (h1 : s.methodNamed? y = some m) (h2 : s.vm.method? m = some meth) (h3 : meth.code = some c) (h4 : c.code = bytes)
    (h5 : (c.maxLocals == mx && c.exceptionTable.isEmpty && decide (c.maxStack ≤ mostOperands) && decide (meth.sig.returnType = rt) && !meth.locks && decide (parseMethodDescriptor y.desc = some meth.sig)) = true) : (Jvm.Cond.code y bytes mx rt).before a s = true := by
  simp only [Bool.and_eq_true, beq_iff_eq, Bool.not_eq_true', decide_eq_true_eq] at h5
  obtain ⟨⟨⟨⟨⟨g1, g2⟩, g3⟩, g4⟩, g5⟩, g6⟩ := h5
  simp [Cond.before, Cond.holds, Cond.value, h1, h2, h3, h4, g1, g2, g3, g4, g5, g6]
def isCode : Jvm.Cond → Bool
  | .code _ _ _ _ => true
  | _ => false
theorem all_split {L : List Jvm.Cond} {P : Jvm.Cond → Bool} (h1 : L.all (fun c => isCode c || P c) = true) (h2 : ∀ c ∈ L.filter isCode, P c = true) : L.all P = true := by
  refine List.all_eq_true.mpr fun c hc => ?_
  have h := List.all_eq_true.mp h1 c hc
  rcases Bool.eq_false_or_eq_true (isCode c) with hi | hi
  · exact h2 c (List.mem_filter.mpr ⟨hc, hi⟩)
  · simpa [hi] using h
set_option maxRecDepth 65536 in
theorem w_c0 : (Jvm.Cond.code x code maxLocals ret).before args0 about1 = true := code_word (m := ⟨1, 1⟩) (meth := k1m1) (c := k1c1) (by decide +kernel) rfl rfl rfl (by decide +kernel)
set_option maxRecDepth 65536 in
theorem w_c1 : (Jvm.Cond.code ({ cls := "com/example/graded_flow/gradedflow/microscopic/Lanes", name := "sameLanes", desc := "(I)[I" } : Jvm.MethodName) prog_12_method_2_code (3 : Nat) (Option.some (Jvm.ClassFile.FieldType.array Jvm.ClassFile.FieldType.int))).before args0 about1 = true := code_word (m := ⟨2, 0⟩) (meth := k2m0) (c := k2c0) (by decide +kernel) rfl rfl rfl (by decide +kernel)
set_option maxRecDepth 65536 in
theorem w_c2 : (Jvm.Cond.code ({ cls := "com/example/graded_flow/gradedflow/microscopic/LanesSameLanesPinLaw", name := "at", desc := "([II)Z" } : Jvm.MethodName) method_3_code (2 : Nat) (Option.some Jvm.ClassFile.FieldType.boolean)).before args0 about1 = true := code_word (m := ⟨1, 2⟩) (meth := k1m2) (c := k1c2) (by decide +kernel) rfl rfl rfl (by decide +kernel)
def codes1 : List Jvm.Cond := [Jvm.Cond.code x code maxLocals ret, Jvm.Cond.code ({ cls := "com/example/graded_flow/gradedflow/microscopic/Lanes", name := "sameLanes", desc := "(I)[I" } : Jvm.MethodName) prog_12_method_2_code (3 : Nat) (Option.some (Jvm.ClassFile.FieldType.array Jvm.ClassFile.FieldType.int)), Jvm.Cond.code ({ cls := "com/example/graded_flow/gradedflow/microscopic/LanesSameLanesPinLaw", name := "at", desc := "([II)Z" } : Jvm.MethodName) method_3_code (2 : Nat) (Option.some Jvm.ClassFile.FieldType.boolean)]
set_option maxRecDepth 65536 in
theorem codes_eq : words1.filter isCode = codes1 := rfl
theorem w_codes : ∀ c ∈ words1.filter isCode, c.before args0 about1 = true := by
  rw [codes_eq]
  intro c hc
  simp only [codes1, List.mem_cons, List.not_mem_nil, or_false] at hc
  rcases hc with rfl | rfl | rfl
  · exact w_c0
  · exact w_c1
  · exact w_c2
set_option maxRecDepth 65536 in
theorem w_t1 : words1.all (fun c => isCode c || c.before args0 about1) = true := by decide +kernel
theorem w_tables : (allAtoms (Jvm.Cond.code x code maxLocals ret :: tables_1)).before args0 about1 = true := by
  rw [allAtoms_all]
  show words1.all (fun c => c.before args0 about1) = true
  refine all_split ?_ w_codes
  rw [w_t1]
set_option maxRecDepth 65536 in
theorem w_case : (Jvm.Cond.and given_1 narrow_1).before args0 about1 = true := by decide +kernel
theorem w_applies : (headSpec (Jvm.Cond.code x code maxLocals ret :: tables_1) room_1).applies x e0.platform about1 = true :=
  (Spec.applies_iff w_frames).mpr ⟨w_running, w_runnable, w_alone, w_named, w_hears, w_ripe, w_room, w_tables⟩
theorem atStart : AtStart classFile x code maxLocals ret World_1 tables_1 room_1 Calls_1 rest_1 Pre_1 launch0 p0 e0 about1 theMethod args0 below0 :=
  ⟨lists_1, trivial, launch0.admits_env _ _ _, launch0.least_env, fairChoices_fair.cas, fairChoices_fair.clock, w_frames, w_args, w_heap, w_applies, trivial, trivial, w_case⟩
end start1
theorem witness_1 : WitnessClaimed_1 := ⟨start1.p0, start1.e0, start1.about1, start1.theMethod, start1.args0, start1.below0, start1.atStart⟩
end Jvm.Pilot.@@N@@
