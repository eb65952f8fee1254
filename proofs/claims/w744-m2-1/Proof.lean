import JvmDerived
import JvmDerived.Pilot.@@N@@Statement
import JvmDerived.Pilot.@@N@@Code
set_option linter.unusedVariables false
set_option linter.unusedSimpArgs false
@@BLOCK:NumsL.lean.txt@@
namespace Jvm.RoadKit
open Sem ClassFile Op Lib Jvm.Stand Jvm.Free Jvm.LawKit
section New
variable {p : Program} {l : Launch} {e : Env} {R : Room} {s : State} {m : MethodId} {args : Array Value} {below : List Frame} {meth : Method} {c : Code} {T : State} {locs : List Loc} {cells slots : Nat}
theorem retI (X : Stand p l e R s m args below meth c T locs cells slots) (hx : p.tables.exec = Jvm.exec) {pc : Nat} {Ls : Array Slot} {z : Int32} {rest : List Value} (hret : meth.sig.returnType = some .int) (hd : decode c.code pc = .ok (.ireturn, 1)) {fs : List Frame}
    (hl : ∀ (f : JFrame) (acts : List Action), f.method = m → f.locked = none → f.entered = [] → (doReturn e (T.setTop f) acts (some (.int z))).1 = T.setFrames fs) : Steps p.tables e below (T.setTop (mkF m pc Ls (.int z :: rest))) (T.setFrames fs) := by
  have hm' : T.vm.method? m = some meth := X.method'
  have hn : narrow .int (.int z) = .int z := rfl
  show Steps p.tables e below (T.setTop { method := m, pc := pc, locals := Ls, stack := _ :: rest, locked := none }) _
  jvm_step X.here [X.here.top, hx, hd, hm', hret, hn]
  first | (intro acts; rw [hl _ acts rfl rfl rfl]) | rw [hl _ _ rfl rfl rfl]
  exact Steps.refl _
theorem retJ (X : Stand p l e R s m args below meth c T locs cells slots) (hx : p.tables.exec = Jvm.exec) {pc : Nat} {Ls : Array Slot} {z : Int64} {rest : List Value} (hret : meth.sig.returnType = some .long) (hd : decode c.code pc = .ok (.lreturn, 1)) {fs : List Frame}
    (hl : ∀ (f : JFrame) (acts : List Action), f.method = m → f.locked = none → f.entered = [] → (doReturn e (T.setTop f) acts (some (.long z))).1 = T.setFrames fs) : Steps p.tables e below (T.setTop (mkF m pc Ls (.long z :: rest))) (T.setFrames fs) := by
  have hm' : T.vm.method? m = some meth := X.method'
  have hn : narrow .long (.long z) = .long z := rfl
  show Steps p.tables e below (T.setTop { method := m, pc := pc, locals := Ls, stack := _ :: rest, locked := none }) _
  jvm_step X.here [X.here.top, hx, hd, hm', hret, hn]
  first | (intro acts; rw [hl _ acts rfl rfl rfl]) | rw [hl _ _ rfl rfl rfl]
  exact Steps.refl _
theorem retD (X : Stand p l e R s m args below meth c T locs cells slots) (hx : p.tables.exec = Jvm.exec) {pc : Nat} {Ls : Array Slot} {z : UInt64} {rest : List Value} (hret : meth.sig.returnType = some .double) (hd : decode c.code pc = .ok (.dreturn, 1)) {fs : List Frame}
    (hl : ∀ (f : JFrame) (acts : List Action), f.method = m → f.locked = none → f.entered = [] → (doReturn e (T.setTop f) acts (some (.double z))).1 = T.setFrames fs) : Steps p.tables e below (T.setTop (mkF m pc Ls (.double z :: rest))) (T.setFrames fs) := by
  have hm' : T.vm.method? m = some meth := X.method'
  have hn : narrow .double (.double z) = .double z := rfl
  show Steps p.tables e below (T.setTop { method := m, pc := pc, locals := Ls, stack := _ :: rest, locked := none }) _
  jvm_step X.here [X.here.top, hx, hd, hm', hret, hn]
  first | (intro acts; rw [hl _ acts rfl rfl rfl]) | rw [hl _ _ rfl rfl rfl]
  exact Steps.refl _
end New
end Jvm.RoadKit
namespace Jvm.Pilot.@@N@@
open Jvm Jvm.ClassFile Sem Op Lib Jvm.Free Jvm.Stand Jvm.LawKit Jvm.RoadKit Bundle Jvm.Pilot.@@N@@.Jvm.D
theorem own_i {n : Nat} (h : n < 2147483648) : (Int32.ofNat n).toInt = n := Int32.toInt_ofNat_of_lt (by omega)
theorem own_lt {i n : Nat} (h : i < n) (hn : n < 2147483648) : Int32.ofNat i < Int32.ofNat n := by
  rw [Int32.lt_iff_toInt_lt, own_i (by omega), own_i (by omega)]; omega
theorem own_nlt {i n : Nat} (h : n ≤ i) (hn : i < 2147483648) : ¬ Int32.ofNat i < Int32.ofNat n := by
  rw [Int32.lt_iff_toInt_lt, own_i (by omega), own_i (by omega)]; omega
theorem own_nn {n : Nat} (hn : n < 2147483648) : ¬ Int32.ofNat n < 0 := by
  rw [Int32.lt_iff_toInt_lt, own_i (by omega), show (0 : Int32).toInt = 0 from rfl]; omega
theorem own_n32 {n : Nat} (hn : n < 2147483648) : (Int32.ofNat n).toNatClampNeg = n := by
  rw [Int32.toNatClampNeg, own_i hn]; rfl
theorem own_one (i : Nat) : Int32.ofNat i + (1 : Int32) = Int32.ofNat (i + 1) := (Int32.ofNat_add i 1).symm
theorem own_and (x : Int32) : 0 ≤ (x &&& (2147483647 : Int32)).toInt := by
  rw [Jvm.Kit.i32_mask x 2147483647 (k := 31) (by decide) (by decide)]; exact Int.emod_nonneg _ (by decide)
theorem own_nat {x : Int32} (h : 0 ≤ x.toInt) : ∃ F : Nat, F < 2147483648 ∧ x = Int32.ofNat F := by
  have := Int32.toInt_lt x
  exact ⟨x.toInt.toNat, by omega, Int32.toInt_inj.mp (by rw [own_i (by omega)]; omega)⟩
theorem own_len (x n : Int32) (h : n = ((x &&& (2147483647 : Int32)) % (6 : Int32))) : ∃ N : Nat, N ≤ 5 ∧ n = Int32.ofNat N := by
  have e := Jvm.Kit.i32_rem_nonneg (y := 6) (own_and x)
  rw [← h, show (6 : Int32).toInt = 6 from by decide] at e
  obtain ⟨F, h1, h2⟩ := own_nat (x := n) (by omega)
  refine ⟨F, ?_, h2⟩
  rw [h2, own_i h1] at e
  omega
theorem own_from (x y fr : Int32) (h : fr = (if (y &&& (1 : Int32)) = (0 : Int32) then ((x &&& (2147483647 : Int32)) % (7 : Int32)) else (x &&& (2147483647 : Int32)))) : ∃ F : Nat, F < 2147483648 ∧ fr = Int32.ofNat F := by
  apply own_nat
  rw [h]
  split
  · rw [Jvm.Kit.i32_rem_nonneg (own_and x), show (7 : Int32).toInt = 7 from by decide]; omega
  · exact own_and x
/-- the array's places -/
def own_LA (cl : Cell) (N : Nat) (f : Nat → Int64) : Prop := cl.slots.size = N ∧ ∀ j, j < N → cl.slots[j]? = some (.long (f j))
theorem own_LA0 {k : ClassId} {cl : Cell} {N : Nat} (hN : N ≤ 5) (h : cl = newA k .long (Int32.ofNat N)) : own_LA cl N (fun _ => 0) := by
  have e : cl.slots.size = N := by rw [h, sz_new, own_n32 (by omega)]
  refine ⟨e, fun j hj => ?_⟩
  rw [h]
  show (Array.replicate _ _)[j]? = _
  rw [Array.getElem?_replicate, if_pos (by rw [own_n32 (by omega)]; exact hj)]; rfl
theorem own_LAset {cl cl' : Cell} {N k : Nat} {f : Nat → Int64} {kk : Int32} {r : Int64} (L : own_LA cl N f) (hk : kk.toNatClampNeg = k) (hkN : k < N) (h : cl' = cl.setSlot kk.toNatClampNeg (.long r)) : own_LA cl' N (fun j => if j = k then r else f j) := by
  refine ⟨by rw [h, sz_set]; exact L.1, fun j hj => ?_⟩
  rw [h, hk]
  show (cl.slots.setIfInBounds k _)[j]? = some (Value.long (if j = k then r else f j))
  by_cases e : j = k
  · subst e; rw [Array.getElem?_setIfInBounds_self, if_pos (by rw [L.1]; exact hkN), if_pos rfl]
  · rw [Array.getElem?_setIfInBounds_ne (Ne.symm e), if_neg e]; exact L.2 j hj
theorem own_inb {cl : Cell} {N k : Nat} {f : Nat → Int64} {kk : Int32} (L : own_LA cl N f) (h0 : ¬ kk < 0) (hk : kk.toNatClampNeg = k) (hkN : k < N) : ¬ (kk < 0 ∨ cl.slots.size ≤ kk.toNatClampNeg) := by
  rw [L.1, hk]; exact fun q => q.elim h0 (fun q => by omega)
theorem own_inN {cl : Cell} {N i : Nat} {f : Nat → Int64} (L : own_LA cl N f) (hN : N ≤ 5) (hi : i < N) : ¬ (Int32.ofNat i < 0 ∨ cl.slots.size ≤ (Int32.ofNat i).toNatClampNeg) := own_inb L (own_nn (by omega)) (own_n32 (by omega)) hi
theorem own_at {cl : Cell} {N i : Nat} {f : Nat → Int64} (L : own_LA cl N f) (hN : N ≤ 5) (hi : i < N) : cl.slots[(Int32.ofNat i).toNatClampNeg]? = some (.long (f i)) := by rw [own_n32 (by omega)]; exact L.2 i hi
theorem own_size {cl : Cell} {N : Nat} {f : Nat → Int64} (L : own_LA cl N f) : cl.slots.size.toInt32 = Int32.ofNat N := by rw [L.1]
/-- what is known when the places up to k are filled -/
def own_St (k : Nat) (u : Int32) (g g' : Nat → Int64) : Prop := (g' k ≠ 0 ↔ ¬ u = (0 : Int32)) ∧ (∀ j, j < k → g' j = g j) ∧ ∀ j, k < j → g' j = 0
theorem own_St0 {k : Nat} {u : Int32} {g : Nat → Int64} (hu : u = (0 : Int32)) (hg : ∀ j, k ≤ j → g j = 0) : own_St k u g g := ⟨⟨fun q => absurd (hg k (Nat.le_refl _)) q, fun q => absurd hu q⟩, fun _ _ => rfl, fun j hj => hg j (by omega)⟩
theorem own_St1 {k : Nat} {u : Int32} {g : Nat → Int64} {r : Int64} (hr : r ≠ 0) (hu : ¬ u = (0 : Int32)) (hg : ∀ j, k ≤ j → g j = 0) : own_St k u g (fun j => if j = k then r else g j) := by
  refine ⟨⟨fun _ => hu, fun _ => by show (if k = k then r else g k) ≠ 0; rw [if_pos rfl]; exact hr⟩, fun j hj => if_neg (by omega), fun j hj => ?_⟩
  show (if j = k then r else g j) = 0
  rw [if_neg (by omega)]; exact hg j (by omega)
theorem own_Stn {k : Nat} {u : Int32} {g g' : Nat → Int64} (h : own_St k u g g') : ∀ j, k + 1 ≤ j → g' j = 0 := fun j hj => h.2.2 j (by omega)
theorem own_uk {u x : Int32} {k N : Nat} {kk : Int32} (hN : N ≤ 5) (hk : kk.toInt = k) (h : u = (if kk < Int32.ofNat N then (if x = (0 : Int32) then (0 : Int32) else (1 : Int32)) else (0 : Int32))) (hz : ¬ u = (0 : Int32)) : k < N := by
  by_cases q : kk < Int32.ofNat N
  · rw [Int32.lt_iff_toInt_lt, own_i (by omega), hk] at q; omega
  · rw [if_neg q] at h; exact absurd h hz
/-- Bins.first's answer -/
def own_Fst (N : Nat) (f : Nat → Int64) (F : Nat) (r : Int32) : Prop := (∃ j, j < N ∧ F ≤ j ∧ f j ≠ 0 ∧ (∀ i, F ≤ i → i < j → f i = 0) ∧ r = Int32.ofNat j) ∨ ((∀ i, F ≤ i → i < N → f i = 0) ∧ r = (-1 : Int32))
def own_Inv (P : Nat → Prop) (i : Nat) (e : Int32) : Prop := (∃ j, i ≤ j ∧ j ≤ 4 ∧ P j ∧ (∀ q, i ≤ q → q < j → ¬ P q) ∧ e = Int32.ofNat j) ∨ ((∀ j, i ≤ j → j ≤ 4 → ¬ P j) ∧ e = (-1 : Int32))
theorem own_step {P : Nat → Prop} {i : Nat} {e e' kk fr u : Int32} {F : Nat} (hi : i ≤ 4) (hF : F < 2147483648) (hfr : fr = Int32.ofNat F) (hkk : kk = Int32.ofNat i) (hP : P i ↔ F ≤ i ∧ ¬ u = (0 : Int32)) (h : own_Inv P (i + 1) e) (he : e' = (if kk < fr then e else (if u = (0 : Int32) then e else kk))) : own_Inv P i e' := by
  subst hfr hkk
  by_cases p : P i
  · obtain ⟨h1, h2⟩ := hP.mp p
    rw [if_neg (own_nlt h1 (by omega)), if_neg h2] at he
    exact Or.inl ⟨i, Nat.le_refl _, hi, p, fun q h1 h2 => by omega, he⟩
  · have e1 : e' = e := by
      rw [he]
      split
      · rfl
      · split
        · rfl
        · rename_i q1 q2
          refine absurd (hP.mpr ⟨?_, q2⟩) p
          exact Nat.le_of_not_lt fun q => q1 (own_lt q (by omega))
    subst e1
    rcases h with ⟨j, h1, h2, h3, h4, h5⟩ | ⟨h1, h2⟩
    · refine Or.inl ⟨j, by omega, h2, h3, fun q q1 q2 => ?_, h5⟩
      by_cases e : q = i
      · subst e; exact p
      · exact h4 q (by omega) q2
    · refine Or.inr ⟨fun j j1 j2 => ?_, h2⟩
      by_cases e : j = i
      · subst e; exact p
      · exact h1 j (by omega) j2
theorem own_final {N F : Nat} {f : Nat → Int64} {r e : Int32} (hN : N ≤ 5) (hf : ∀ j, f j ≠ 0 → j < N) (h1 : own_Fst N f F r) (h2 : own_Inv (fun j => F ≤ j ∧ f j ≠ 0) 0 e) : r = e := by
  rcases h1 with ⟨j, a1, a2, a3, a4, a5⟩ | ⟨a1, a2⟩ <;> rcases h2 with ⟨i, b1, b2, b3, b4, b5⟩ | ⟨b1, b2⟩
  · have : i = j := by
      rcases Nat.lt_trichotomy i j with q | q | q
      · exact absurd (a4 i b3.1 q) b3.2
      · exact q
      · exact absurd ⟨a2, a3⟩ (b4 j (Nat.zero_le _) q)
    rw [a5, b5, this]
  · exact absurd ⟨a2, a3⟩ (b1 j (Nat.zero_le _) (by omega))
  · exact absurd (a1 i b3.1 (hf i b3.2)) b3.2
  · rw [a2, b2]

theorem d2_0 : decode method_2_code 0 = .ok (.lload_n 0, 1) := by decide +kernel
theorem d2_1 : decode method_2_code 1 = .ok (.bipush 8, 2) := by decide +kernel
theorem d2_3 : decode method_2_code 3 = .ok (.iload_n 2, 1) := by decide +kernel
theorem d2_4 : decode method_2_code 4 = .ok (.imul, 1) := by decide +kernel
theorem d2_5 : decode method_2_code 5 = .ok (.lushr, 1) := by decide +kernel
theorem d2_6 : decode method_2_code 6 = .ok (.ldc2_w 9, 3) := by decide +kernel
theorem d2_9 : decode method_2_code 9 = .ok (.land, 1) := by decide +kernel
theorem d2_10 : decode method_2_code 10 = .ok (.lstore_n 3, 1) := by decide +kernel
theorem d2_11 : decode method_2_code 11 = .ok (.lload_n 3, 1) := by decide +kernel
theorem d2_12 : decode method_2_code 12 = .ok (.lconst 0, 1) := by decide +kernel
theorem d2_13 : decode method_2_code 13 = .ok (.lcmp, 1) := by decide +kernel
theorem d2_14 : decode method_2_code 14 = .ok (.ifCond .ne 7, 3) := by decide +kernel
theorem d2_17 : decode method_2_code 17 = .ok (.lconst 1, 1) := by decide +kernel
theorem d2_18 : decode method_2_code 18 = .ok (.goto 4, 3) := by decide +kernel
theorem d2_22 : decode method_2_code 22 = .ok (.lreturn, 1) := by decide +kernel
theorem d2_21 : decode method_2_code 21 = .ok (.lload_n 3, 1) := by decide +kernel
theorem pn_2 : plainName "com/example/quantiscope/quantiscope/threshold/BinsFirstPinLaw" = true := by first | (simp [plainName, overriddenIn]; done) | decide +kernel
theorem ef_2_xx (m : MethodId) (x0 : Int64) (x1 : Int32) : entryFrame m #[(.long x0), (.int x1)] 5 = mkF m 0 #[.val (.long x0), .second, .val (.int x1), .unset, .unset] [] := by first | (simp [entryFrame, mkF, argsToLocals, Value.category]; done) | rfl
def Q2 (Z : State) (q1 : Int64) (p2 : Int32) (h0 : Heap) (n0 : Nat) (v : Option Value) (h : Heap) (L : List Loc) : Prop := ∃ (r : Int64), v = some (.long r) ∧ Fr n0 L ∧ h = h0 ∧ (r ≠ 0)
set_option maxRecDepth 65536 in
set_option maxHeartbeats 40000000 in
theorem rm2 (l : Launch) (Z : State) (a0 : Array Value) (hw : ∀ d ∈ tables_1, d.before a0 Z = true) (ws : List Jvm.Cond) (q1 : Int64) (p2 : Int32) (h0 : Heap) (n0 : Nat) (Z0 : n0 ≤ h0.size) :
    MetFree l (⟨"com/example/quantiscope/quantiscope/threshold/BinsFirstPinLaw", "val", "(JI)J"⟩ : MethodName) (head1 (Jvm.Cond.code (⟨"com/example/quantiscope/quantiscope/threshold/BinsFirstPinLaw", "val", "(JI)J"⟩ : MethodName) method_2_code 5 (some .long) :: ws) ({ frames := 0, cells := 0, slots := 0, locals := 0 } : Room)) (fun a U => a = #[(.long q1), (.int p2)] ∧ Z.Warmed39 U.vm ∧ U.heap = h0) (fun _ _ _ _ _ => True) (fun _ U o U' => ∃ v L, o = .returned v ∧ Q2 Z q1 p2 h0 n0 v U'.heap L ∧ FrameEnd U o U' L ({ frames := 0, cells := 0, slots := 0, locals := 0 } : Room).cells ({ frames := 0, cells := 0, slots := 0, locals := 0 } : Room).slots) := by
  refine MetFree.of_bodySF (plainFor_of_name pn_2) hisR ?_
  intro p e s m args below meth c s₁ Bd hml0 hP hK
  obtain ⟨rfl, hZ, hh⟩ := hP
  have hx := Bd.exec
  have hby := Bd.bytes
  have hml : c.maxLocals = 5 := hml0
  have hown : s.vm.findClass "com/example/quantiscope/quantiscope/threshold/BinsFirstPinLaw" = some m.cls := findClass_of_methodNamed Bd.named
  have hnm := (name_of_methodNamed Bd.named Bd.method).1
  have X0 : Stand p l e ({ frames := 0, cells := 0, slots := 0, locals := 0 } : Room) s m #[(.long q1), (.int p2)] below meth c s₁ [] 0 0 := Stand.of_body Bd
  have e0 : s₁.heap = h0 := by rw [← hh, Bd.state]; rfl
  have N0 := Fr.nil n0
  have pre0 : ∀ t, Steps p.tables e below (s₁.setTop (mkF m 0 #[.val (.long q1), .second, .val (.int p2), .unset, .unset] [])) t → Steps p.tables e below (s₁.setTop (entryFrame m #[(.long q1), (.int p2)] 5)) t := fun t k => castTop (ef_2_xx m q1 p2) k
  have J1 : ∀ t, Steps p.tables e below (s₁.setTop (mkF m 14 #[.val (.long q1), .second, .val (.int p2), .val (.long (((q1.toUInt64 >>> (((8 : Int32) * p2) &&& 0x3f).toInt64.toUInt64).toInt64) &&& (9223372036854775807 : Int64))), .second] [(.int (lcmpW (((q1.toUInt64 >>> (((8 : Int32) * p2) &&& 0x3f).toInt64.toUInt64).toInt64) &&& (9223372036854775807 : Int64)) (0 : Int64)))])) t → Steps p.tables e below (s₁.setTop (entryFrame m #[(.long q1), (.int p2)] 5)) t := fun t k => pre0 t (by
      show Steps p.tables e below (s₁.setTop (mkF m 0 #[.val (.long q1), .second, .val (.int p2), .unset, .unset] [])) _
      refine XS.lloadN X0.here hx rfl (hb hby d2_0) rfl ?_
      show Steps p.tables e below (s₁.setTop (mkF m 1 #[.val (.long q1), .second, .val (.int p2), .unset, .unset] [(.long q1)])) _
      refine XS.bipush X0.here hx rfl (hb hby d2_1) ?_
      show Steps p.tables e below (s₁.setTop (mkF m 3 #[.val (.long q1), .second, .val (.int p2), .unset, .unset] [(.int (8 : Int32)), (.long q1)])) _
      refine XS.iloadN X0.here hx rfl (hb hby d2_3) rfl ?_
      show Steps p.tables e below (s₁.setTop (mkF m 4 #[.val (.long q1), .second, .val (.int p2), .unset, .unset] [(.int p2), (.int (8 : Int32)), (.long q1)])) _
      refine XS.imul X0.here hx rfl (hb hby d2_4) rfl ?_
      show Steps p.tables e below (s₁.setTop (mkF m 5 #[.val (.long q1), .second, .val (.int p2), .unset, .unset] [(.int ((8 : Int32) * p2)), (.long q1)])) _
      refine XS.lushr X0.here hx rfl (hb hby d2_5) rfl ?_
      show Steps p.tables e below (s₁.setTop (mkF m 6 #[.val (.long q1), .second, .val (.int p2), .unset, .unset] [(.long ((q1.toUInt64 >>> (((8 : Int32) * p2) &&& 0x3f).toInt64.toUInt64).toInt64))])) _
      refine X0.ldc2Long hx hown (mvT hZ (hw _ (List.mem_of_getElem? (i := 10) rfl))) (g := (mkF m 6 #[.val (.long q1), .second, .val (.int p2), .unset, .unset] [(.long ((q1.toUInt64 >>> (((8 : Int32) * p2) &&& 0x3f).toInt64.toUInt64).toInt64))])) rfl (hb hby d2_6) _ ?_
      show Steps p.tables e below (s₁.setTop (mkF m 9 #[.val (.long q1), .second, .val (.int p2), .unset, .unset] [(.long (9223372036854775807 : Int64)), (.long ((q1.toUInt64 >>> (((8 : Int32) * p2) &&& 0x3f).toInt64.toUInt64).toInt64))])) _
      refine XS.land X0.here hx rfl (hb hby d2_9) rfl ?_
      show Steps p.tables e below (s₁.setTop (mkF m 10 #[.val (.long q1), .second, .val (.int p2), .unset, .unset] [(.long (((q1.toUInt64 >>> (((8 : Int32) * p2) &&& 0x3f).toInt64.toUInt64).toInt64) &&& (9223372036854775807 : Int64)))])) _
      refine XS.lstoreN X0.here hx rfl (hb hby d2_10) rfl (l' := #[.val (.long q1), .second, .val (.int p2), .val (.long (((q1.toUInt64 >>> (((8 : Int32) * p2) &&& 0x3f).toInt64.toUInt64).toInt64) &&& (9223372036854775807 : Int64))), .second]) rfl ?_
      show Steps p.tables e below (s₁.setTop (mkF m 11 #[.val (.long q1), .second, .val (.int p2), .val (.long (((q1.toUInt64 >>> (((8 : Int32) * p2) &&& 0x3f).toInt64.toUInt64).toInt64) &&& (9223372036854775807 : Int64))), .second] [])) _
      refine XS.lloadN X0.here hx rfl (hb hby d2_11) rfl ?_
      show Steps p.tables e below (s₁.setTop (mkF m 12 #[.val (.long q1), .second, .val (.int p2), .val (.long (((q1.toUInt64 >>> (((8 : Int32) * p2) &&& 0x3f).toInt64.toUInt64).toInt64) &&& (9223372036854775807 : Int64))), .second] [(.long (((q1.toUInt64 >>> (((8 : Int32) * p2) &&& 0x3f).toInt64.toUInt64).toInt64) &&& (9223372036854775807 : Int64)))])) _
      refine XS.lconst X0.here hx rfl (hb hby d2_12) ?_
      show Steps p.tables e below (s₁.setTop (mkF m 13 #[.val (.long q1), .second, .val (.int p2), .val (.long (((q1.toUInt64 >>> (((8 : Int32) * p2) &&& 0x3f).toInt64.toUInt64).toInt64) &&& (9223372036854775807 : Int64))), .second] [(.long (0 : Int64)), (.long (((q1.toUInt64 >>> (((8 : Int32) * p2) &&& 0x3f).toInt64.toUInt64).toInt64) &&& (9223372036854775807 : Int64)))])) _
      refine XS.lcmp X0.here hx rfl (hb hby d2_13) rfl ?_
      exact k)
  by_cases hz : (lcmpW (((q1.toUInt64 >>> (((8 : Int32) * p2) &&& 0x3f).toInt64.toUInt64).toInt64) &&& (9223372036854775807 : Int64)) (0 : Int64)) = (0 : Int32)
  ·
    have J2 : ∀ t, Steps p.tables e below (s₁.setTop (mkF m 22 #[.val (.long q1), .second, .val (.int p2), .val (.long (((q1.toUInt64 >>> (((8 : Int32) * p2) &&& 0x3f).toInt64.toUInt64).toInt64) &&& (9223372036854775807 : Int64))), .second] [(.long (1 : Int64))])) t → Steps p.tables e below (s₁.setTop (entryFrame m #[(.long q1), (.int p2)] 5)) t := fun t k => J1 t (by
        show Steps p.tables e below (s₁.setTop (mkF m 14 #[.val (.long q1), .second, .val (.int p2), .val (.long (((q1.toUInt64 >>> (((8 : Int32) * p2) &&& 0x3f).toInt64.toUInt64).toInt64) &&& (9223372036854775807 : Int64))), .second] [(.int (lcmpW (((q1.toUInt64 >>> (((8 : Int32) * p2) &&& 0x3f).toInt64.toUInt64).toInt64) &&& (9223372036854775807 : Int64)) (0 : Int64)))])) _
        refine XS.ifNo X0.here hx rfl (hb hby d2_14) rfl ((if0 _ _).trans (teq hz).2) ?_
        show Steps p.tables e below (s₁.setTop (mkF m 17 #[.val (.long q1), .second, .val (.int p2), .val (.long (((q1.toUInt64 >>> (((8 : Int32) * p2) &&& 0x3f).toInt64.toUInt64).toInt64) &&& (9223372036854775807 : Int64))), .second] [])) _
        refine XS.lconst X0.here hx rfl (hb hby d2_17) ?_
        show Steps p.tables e below (s₁.setTop (mkF m 18 #[.val (.long q1), .second, .val (.int p2), .val (.long (((q1.toUInt64 >>> (((8 : Int32) * p2) &&& 0x3f).toInt64.toUInt64).toInt64) &&& (9223372036854775807 : Int64))), .second] [(.long (1 : Int64))])) _
        refine XS.goto X0.here hx rfl (pc0 := 18) (pc' := 22) rfl (hb hby d2_18) (by decide) (by decide) ?_
        exact k)
    obtain ⟨fs, hr, hrun, hended, hW, hsame⟩ := X0.leave (v := some (.long (1 : Int64))) (fun h => by rw [Bd.returns] at h; cases h)
    refine ⟨_, _, J2 _ ?_, hrun, hended, _, _, rfl, ?_, ⟨_, rfl⟩, hW, hsame.mono (by decide) (by decide)⟩
    · show Steps p.tables e below (s₁.setTop (mkF m 22 #[.val (.long q1), .second, .val (.int p2), .val (.long (((q1.toUInt64 >>> (((8 : Int32) * p2) &&& 0x3f).toInt64.toUInt64).toInt64) &&& (9223372036854775807 : Int64))), .second] [(.long (1 : Int64))])) _
      exact retJ X0 hx Bd.returns (hb hby d2_22) hr
    · show Q2 Z q1 p2 h0 n0 _ s₁.heap _
      rw [e0]
      exact ⟨(1 : Int64), rfl, N0, rfl, (by decide)⟩
  ·
    have J3 : ∀ t, Steps p.tables e below (s₁.setTop (mkF m 22 #[.val (.long q1), .second, .val (.int p2), .val (.long (((q1.toUInt64 >>> (((8 : Int32) * p2) &&& 0x3f).toInt64.toUInt64).toInt64) &&& (9223372036854775807 : Int64))), .second] [(.long (((q1.toUInt64 >>> (((8 : Int32) * p2) &&& 0x3f).toInt64.toUInt64).toInt64) &&& (9223372036854775807 : Int64)))])) t → Steps p.tables e below (s₁.setTop (entryFrame m #[(.long q1), (.int p2)] 5)) t := fun t k => J1 t (by
        show Steps p.tables e below (s₁.setTop (mkF m 14 #[.val (.long q1), .second, .val (.int p2), .val (.long (((q1.toUInt64 >>> (((8 : Int32) * p2) &&& 0x3f).toInt64.toUInt64).toInt64) &&& (9223372036854775807 : Int64))), .second] [(.int (lcmpW (((q1.toUInt64 >>> (((8 : Int32) * p2) &&& 0x3f).toInt64.toUInt64).toInt64) &&& (9223372036854775807 : Int64)) (0 : Int64)))])) _
        refine XS.ifYes X0.here hx rfl (pc0 := 14) (pc' := 21) rfl (hb hby d2_14) rfl ((if0 _ _).trans (feq hz).2) (by decide) (by decide) ?_
        show Steps p.tables e below (s₁.setTop (mkF m 21 #[.val (.long q1), .second, .val (.int p2), .val (.long (((q1.toUInt64 >>> (((8 : Int32) * p2) &&& 0x3f).toInt64.toUInt64).toInt64) &&& (9223372036854775807 : Int64))), .second] [])) _
        refine XS.lloadN X0.here hx rfl (hb hby d2_21) rfl ?_
        exact k)
    obtain ⟨fs, hr, hrun, hended, hW, hsame⟩ := X0.leave (v := some (.long (((q1.toUInt64 >>> (((8 : Int32) * p2) &&& 0x3f).toInt64.toUInt64).toInt64) &&& (9223372036854775807 : Int64)))) (fun h => by rw [Bd.returns] at h; cases h)
    refine ⟨_, _, J3 _ ?_, hrun, hended, _, _, rfl, ?_, ⟨_, rfl⟩, hW, hsame.mono (by decide) (by decide)⟩
    · show Steps p.tables e below (s₁.setTop (mkF m 22 #[.val (.long q1), .second, .val (.int p2), .val (.long (((q1.toUInt64 >>> (((8 : Int32) * p2) &&& 0x3f).toInt64.toUInt64).toInt64) &&& (9223372036854775807 : Int64))), .second] [(.long (((q1.toUInt64 >>> (((8 : Int32) * p2) &&& 0x3f).toInt64.toUInt64).toInt64) &&& (9223372036854775807 : Int64)))])) _
      exact retJ X0 hx Bd.returns (hb hby d2_22) hr
    · show Q2 Z q1 p2 h0 n0 _ s₁.heap _
      rw [e0]
      exact ⟨(((q1.toUInt64 >>> (((8 : Int32) * p2) &&& 0x3f).toInt64.toUInt64).toInt64) &&& (9223372036854775807 : Int64)), rfl, N0, rfl, (fun q => hz ((lw_eq _ _).mpr q))⟩
theorem d1_2 : decode prog_63_method_3_code 2 = .ok (.iload_n 2, 1) := by decide +kernel
theorem d1_3 : decode prog_63_method_3_code 3 = .ok (.aload_n 0, 1) := by decide +kernel
theorem d1_4 : decode prog_63_method_3_code 4 = .ok (.arraylength, 1) := by decide +kernel
theorem d1_5 : decode prog_63_method_3_code 5 = .ok (.if_icmp .ge 17, 3) := by decide +kernel
theorem d1_8 : decode prog_63_method_3_code 8 = .ok (.aload_n 0, 1) := by decide +kernel
theorem d1_9 : decode prog_63_method_3_code 9 = .ok (.iload_n 2, 1) := by decide +kernel
theorem d1_10 : decode prog_63_method_3_code 10 = .ok (.laload, 1) := by decide +kernel
theorem d1_11 : decode prog_63_method_3_code 11 = .ok (.lconst 0, 1) := by decide +kernel
theorem d1_12 : decode prog_63_method_3_code 12 = .ok (.lcmp, 1) := by decide +kernel
theorem d1_13 : decode prog_63_method_3_code 13 = .ok (.ifCond .ne 9, 3) := by decide +kernel
theorem d1_16 : decode prog_63_method_3_code 16 = .ok (.iinc 2 1, 3) := by decide +kernel
theorem d1_19 : decode prog_63_method_3_code 19 = .ok (.goto (-17), 3) := by decide +kernel
section
variable {p : Program} {l : Launch} {e : Env} {R : Room} {s : State} {m : MethodId} {args : Array Value} {below : List Frame} {meth : Method} {c : Code} {Z : State} {a0 : Array Value}
set_option maxRecDepth 65536 in
set_option maxHeartbeats 40000000 in
theorem tn1 (a1 : Addr) (cl : Cell) (N : Nat) (f : Nat → Int64) (q : Int32) (i : Nat) {T0 : State} {locs : List Loc} {cells slots : Nat} {h0 : Heap} {n0 : Nat} (X0 : Stand p l e R s m args below meth c T0 locs cells slots) (hx : p.tables.exec = Jvm.exec) (hZ : Z.Warmed39 s.vm) (hw : ∀ d ∈ tables_1, d.before a0 Z = true) (hby : c.code = prog_63_method_3_code) (hml : c.maxLocals = 3) (hown : s.vm.findClass "com/example/quantiscope/quantiscope/threshold/Bins" = some m.cls) (e0 : T0.heap = h0) (N0 : Fr n0 locs) (Z0 : n0 ≤ h0.size) (Ar_a1 : Arr Z h0 a1 cl .long) (hN : N ≤ 5) (L : own_LA cl N f) (hi : i < N) (hz : f i = 0) :
    ∃ (T' : State) (h' : Heap) (locs' : List Loc), Stand p l e R s m args below meth c T' locs' cells slots ∧ T'.heap = h' ∧ Fr n0 locs' ∧ n0 ≤ h'.size ∧ h' = h0 ∧ ∀ t, Steps p.tables e below (T'.setTop (mkF m 2 #[.val (.ref a1), .val (.int q), .val (.int ((Int32.ofNat i) + (1 : Int32)))] [])) t → Steps p.tables e below (T0.setTop (mkF m 2 #[.val (.ref a1), .val (.int q), .val (.int (Int32.ofNat i))] [])) t := by
  have J1 : ∀ t, Steps p.tables e below (T0.setTop (mkF m 2 #[.val (.ref a1), .val (.int q), .val (.int ((Int32.ofNat i) + (1 : Int32)))] [])) t → Steps p.tables e below (T0.setTop (mkF m 2 #[.val (.ref a1), .val (.int q), .val (.int (Int32.ofNat i))] [])) t := fun t k => id (by
      show Steps p.tables e below (T0.setTop (mkF m 2 #[.val (.ref a1), .val (.int q), .val (.int (Int32.ofNat i))] [])) _
      refine XS.iloadN X0.here hx rfl (hb hby d1_2) rfl ?_
      show Steps p.tables e below (T0.setTop (mkF m 3 #[.val (.ref a1), .val (.int q), .val (.int (Int32.ofNat i))] [(.int (Int32.ofNat i))])) _
      refine XS.aloadN X0.here hx rfl (hb hby d1_3) rfl rfl ?_
      show Steps p.tables e below (T0.setTop (mkF m 4 #[.val (.ref a1), .val (.int q), .val (.int (Int32.ofNat i))] [(.ref a1), (.int (Int32.ofNat i))])) _
      refine X0.arraylength hx (cell := cl) (by rw [e0]; exact Ar_a1.1) (State.isArrayOf_alike hZ.alike Ar_a1.2.1) (g := (mkF m 4 #[.val (.ref a1), .val (.int q), .val (.int (Int32.ofNat i))] [(.ref a1), (.int (Int32.ofNat i))])) rfl (rest := [(.int (Int32.ofNat i))]) rfl (hb hby d1_4) _ ?_
      rw [(own_size L)]
      show Steps p.tables e below (T0.setTop (mkF m 5 #[.val (.ref a1), .val (.int q), .val (.int (Int32.ofNat i))] [(.int (Int32.ofNat N)), (.int (Int32.ofNat i))])) _
      refine XS.icmpNo X0.here hx rfl (hb hby d1_5) rfl (tlt (own_lt hi (by omega))).2.1 ?_
      show Steps p.tables e below (T0.setTop (mkF m 8 #[.val (.ref a1), .val (.int q), .val (.int (Int32.ofNat i))] [])) _
      refine XS.aloadN X0.here hx rfl (hb hby d1_8) rfl rfl ?_
      show Steps p.tables e below (T0.setTop (mkF m 9 #[.val (.ref a1), .val (.int q), .val (.int (Int32.ofNat i))] [(.ref a1)])) _
      refine XS.iloadN X0.here hx rfl (hb hby d1_9) rfl ?_
      show Steps p.tables e below (T0.setTop (mkF m 10 #[.val (.ref a1), .val (.int q), .val (.int (Int32.ofNat i))] [(.int (Int32.ofNat i)), (.ref a1)])) _
      refine X0.laload hx (j := (Int32.ofNat i)) (v := (.long (f i))) (by rw [e0]; exact Ar_a1.1) (State.isArrayOf_alike hZ.alike Ar_a1.2.1) Ar_a1.2.2 (own_inN L hN hi) (own_at L hN hi) (g := (mkF m 10 #[.val (.ref a1), .val (.int q), .val (.int (Int32.ofNat i))] [(.int (Int32.ofNat i)), (.ref a1)])) rfl rfl (hb hby d1_10) _ ?_
      show Steps p.tables e below (T0.setTop (mkF m 11 #[.val (.ref a1), .val (.int q), .val (.int (Int32.ofNat i))] [(.long (f i))])) _
      refine XS.lconst X0.here hx rfl (hb hby d1_11) ?_
      show Steps p.tables e below (T0.setTop (mkF m 12 #[.val (.ref a1), .val (.int q), .val (.int (Int32.ofNat i))] [(.long (0 : Int64)), (.long (f i))])) _
      refine XS.lcmp X0.here hx rfl (hb hby d1_12) rfl ?_
      show Steps p.tables e below (T0.setTop (mkF m 13 #[.val (.ref a1), .val (.int q), .val (.int (Int32.ofNat i))] [(.int (lcmpW (f i) (0 : Int64)))])) _
      refine XS.ifNo X0.here hx rfl (hb hby d1_13) rfl ((if0 _ _).trans (teq ((lw_eq _ _).mpr hz)).2) ?_
      show Steps p.tables e below (T0.setTop (mkF m 16 #[.val (.ref a1), .val (.int q), .val (.int (Int32.ofNat i))] [])) _
      refine XS.iinc X0.here hx rfl (hb hby d1_16) rfl (l' := #[.val (.ref a1), .val (.int q), .val (.int ((Int32.ofNat i) + (1 : Int32)))]) rfl ?_
      show Steps p.tables e below (T0.setTop (mkF m 19 #[.val (.ref a1), .val (.int q), .val (.int ((Int32.ofNat i) + (1 : Int32)))] [])) _
      refine XS.goto X0.here hx rfl (pc0 := 19) (pc' := 2) rfl (hb hby d1_19) (by decide) (by decide) ?_
      exact k)
  exact ⟨T0, _, _, X0, e0, N0, Z0, rfl, J1⟩
end
section
variable {p : Program} {l : Launch} {e : Env} {R : Room} {s : State} {m : MethodId} {args : Array Value} {below : List Frame} {meth : Method} {c : Code} {Z : State} {a0 : Array Value}
set_option maxRecDepth 65536 in
set_option maxHeartbeats 40000000 in
theorem lva (a1 : Addr) (cl : Cell) (N : Nat) (f : Nat → Int64) (q : Int32) (i : Nat) {T0 : State} {locs : List Loc} {cells slots : Nat} {h0 : Heap} {n0 : Nat} (X0 : Stand p l e R s m args below meth c T0 locs cells slots) (hx : p.tables.exec = Jvm.exec) (hZ : Z.Warmed39 s.vm) (hw : ∀ d ∈ tables_1, d.before a0 Z = true) (hby : c.code = prog_63_method_3_code) (hml : c.maxLocals = 3) (hown : s.vm.findClass "com/example/quantiscope/quantiscope/threshold/Bins" = some m.cls) (e0 : T0.heap = h0) (N0 : Fr n0 locs) (Z0 : n0 ≤ h0.size) (Ar_a1 : Arr Z h0 a1 cl .long) (hN : N ≤ 5) (L : own_LA cl N f) (hi : i < N) (hz : f i ≠ 0) :
    ∃ (T' : State) (h' : Heap) (locs' : List Loc), Stand p l e R s m args below meth c T' locs' cells slots ∧ T'.heap = h' ∧ Fr n0 locs' ∧ n0 ≤ h'.size ∧ h' = h0 ∧ ∀ t, Steps p.tables e below (T'.setTop (mkF m 22 #[.val (.ref a1), .val (.int q), .val (.int (Int32.ofNat i))] [])) t → Steps p.tables e below (T0.setTop (mkF m 2 #[.val (.ref a1), .val (.int q), .val (.int (Int32.ofNat i))] [])) t := by
  have J1 : ∀ t, Steps p.tables e below (T0.setTop (mkF m 22 #[.val (.ref a1), .val (.int q), .val (.int (Int32.ofNat i))] [])) t → Steps p.tables e below (T0.setTop (mkF m 2 #[.val (.ref a1), .val (.int q), .val (.int (Int32.ofNat i))] [])) t := fun t k => id (by
      show Steps p.tables e below (T0.setTop (mkF m 2 #[.val (.ref a1), .val (.int q), .val (.int (Int32.ofNat i))] [])) _
      refine XS.iloadN X0.here hx rfl (hb hby d1_2) rfl ?_
      show Steps p.tables e below (T0.setTop (mkF m 3 #[.val (.ref a1), .val (.int q), .val (.int (Int32.ofNat i))] [(.int (Int32.ofNat i))])) _
      refine XS.aloadN X0.here hx rfl (hb hby d1_3) rfl rfl ?_
      show Steps p.tables e below (T0.setTop (mkF m 4 #[.val (.ref a1), .val (.int q), .val (.int (Int32.ofNat i))] [(.ref a1), (.int (Int32.ofNat i))])) _
      refine X0.arraylength hx (cell := cl) (by rw [e0]; exact Ar_a1.1) (State.isArrayOf_alike hZ.alike Ar_a1.2.1) (g := (mkF m 4 #[.val (.ref a1), .val (.int q), .val (.int (Int32.ofNat i))] [(.ref a1), (.int (Int32.ofNat i))])) rfl (rest := [(.int (Int32.ofNat i))]) rfl (hb hby d1_4) _ ?_
      rw [(own_size L)]
      show Steps p.tables e below (T0.setTop (mkF m 5 #[.val (.ref a1), .val (.int q), .val (.int (Int32.ofNat i))] [(.int (Int32.ofNat N)), (.int (Int32.ofNat i))])) _
      refine XS.icmpNo X0.here hx rfl (hb hby d1_5) rfl (tlt (own_lt hi (by omega))).2.1 ?_
      show Steps p.tables e below (T0.setTop (mkF m 8 #[.val (.ref a1), .val (.int q), .val (.int (Int32.ofNat i))] [])) _
      refine XS.aloadN X0.here hx rfl (hb hby d1_8) rfl rfl ?_
      show Steps p.tables e below (T0.setTop (mkF m 9 #[.val (.ref a1), .val (.int q), .val (.int (Int32.ofNat i))] [(.ref a1)])) _
      refine XS.iloadN X0.here hx rfl (hb hby d1_9) rfl ?_
      show Steps p.tables e below (T0.setTop (mkF m 10 #[.val (.ref a1), .val (.int q), .val (.int (Int32.ofNat i))] [(.int (Int32.ofNat i)), (.ref a1)])) _
      refine X0.laload hx (j := (Int32.ofNat i)) (v := (.long (f i))) (by rw [e0]; exact Ar_a1.1) (State.isArrayOf_alike hZ.alike Ar_a1.2.1) Ar_a1.2.2 (own_inN L hN hi) (own_at L hN hi) (g := (mkF m 10 #[.val (.ref a1), .val (.int q), .val (.int (Int32.ofNat i))] [(.int (Int32.ofNat i)), (.ref a1)])) rfl rfl (hb hby d1_10) _ ?_
      show Steps p.tables e below (T0.setTop (mkF m 11 #[.val (.ref a1), .val (.int q), .val (.int (Int32.ofNat i))] [(.long (f i))])) _
      refine XS.lconst X0.here hx rfl (hb hby d1_11) ?_
      show Steps p.tables e below (T0.setTop (mkF m 12 #[.val (.ref a1), .val (.int q), .val (.int (Int32.ofNat i))] [(.long (0 : Int64)), (.long (f i))])) _
      refine XS.lcmp X0.here hx rfl (hb hby d1_12) rfl ?_
      show Steps p.tables e below (T0.setTop (mkF m 13 #[.val (.ref a1), .val (.int q), .val (.int (Int32.ofNat i))] [(.int (lcmpW (f i) (0 : Int64)))])) _
      refine XS.ifYes X0.here hx rfl (pc0 := 13) (pc' := 22) rfl (hb hby d1_13) rfl ((if0 _ _).trans (feq (fun q => hz ((lw_eq _ _).mp q))).2) (by decide) (by decide) ?_
      exact k)
  exact ⟨T0, _, _, X0, e0, N0, Z0, rfl, J1⟩
end
section
variable {p : Program} {l : Launch} {e : Env} {R : Room} {s : State} {m : MethodId} {args : Array Value} {below : List Frame} {meth : Method} {c : Code} {Z : State} {a0 : Array Value}
set_option maxRecDepth 65536 in
set_option maxHeartbeats 40000000 in
theorem lvb (a1 : Addr) (cl : Cell) (N : Nat) (f : Nat → Int64) (q : Int32) (i : Nat) {T0 : State} {locs : List Loc} {cells slots : Nat} {h0 : Heap} {n0 : Nat} (X0 : Stand p l e R s m args below meth c T0 locs cells slots) (hx : p.tables.exec = Jvm.exec) (hZ : Z.Warmed39 s.vm) (hw : ∀ d ∈ tables_1, d.before a0 Z = true) (hby : c.code = prog_63_method_3_code) (hml : c.maxLocals = 3) (hown : s.vm.findClass "com/example/quantiscope/quantiscope/threshold/Bins" = some m.cls) (e0 : T0.heap = h0) (N0 : Fr n0 locs) (Z0 : n0 ≤ h0.size) (Ar_a1 : Arr Z h0 a1 cl .long) (hN : N ≤ 5) (L : own_LA cl N f) (hi : N ≤ i) (hbd : i < 2147483648) :
    ∃ (T' : State) (h' : Heap) (locs' : List Loc), Stand p l e R s m args below meth c T' locs' cells slots ∧ T'.heap = h' ∧ Fr n0 locs' ∧ n0 ≤ h'.size ∧ h' = h0 ∧ ∀ t, Steps p.tables e below (T'.setTop (mkF m 22 #[.val (.ref a1), .val (.int q), .val (.int (Int32.ofNat i))] [])) t → Steps p.tables e below (T0.setTop (mkF m 2 #[.val (.ref a1), .val (.int q), .val (.int (Int32.ofNat i))] [])) t := by
  have J1 : ∀ t, Steps p.tables e below (T0.setTop (mkF m 22 #[.val (.ref a1), .val (.int q), .val (.int (Int32.ofNat i))] [])) t → Steps p.tables e below (T0.setTop (mkF m 2 #[.val (.ref a1), .val (.int q), .val (.int (Int32.ofNat i))] [])) t := fun t k => id (by
      show Steps p.tables e below (T0.setTop (mkF m 2 #[.val (.ref a1), .val (.int q), .val (.int (Int32.ofNat i))] [])) _
      refine XS.iloadN X0.here hx rfl (hb hby d1_2) rfl ?_
      show Steps p.tables e below (T0.setTop (mkF m 3 #[.val (.ref a1), .val (.int q), .val (.int (Int32.ofNat i))] [(.int (Int32.ofNat i))])) _
      refine XS.aloadN X0.here hx rfl (hb hby d1_3) rfl rfl ?_
      show Steps p.tables e below (T0.setTop (mkF m 4 #[.val (.ref a1), .val (.int q), .val (.int (Int32.ofNat i))] [(.ref a1), (.int (Int32.ofNat i))])) _
      refine X0.arraylength hx (cell := cl) (by rw [e0]; exact Ar_a1.1) (State.isArrayOf_alike hZ.alike Ar_a1.2.1) (g := (mkF m 4 #[.val (.ref a1), .val (.int q), .val (.int (Int32.ofNat i))] [(.ref a1), (.int (Int32.ofNat i))])) rfl (rest := [(.int (Int32.ofNat i))]) rfl (hb hby d1_4) _ ?_
      rw [(own_size L)]
      show Steps p.tables e below (T0.setTop (mkF m 5 #[.val (.ref a1), .val (.int q), .val (.int (Int32.ofNat i))] [(.int (Int32.ofNat N)), (.int (Int32.ofNat i))])) _
      refine XS.icmpYes X0.here hx rfl (pc0 := 5) (pc' := 22) rfl (hb hby d1_5) rfl (flt (own_nlt hi hbd)).2.1 (by decide) (by decide) ?_
      exact k)
  exact ⟨T0, _, _, X0, e0, N0, Z0, rfl, J1⟩
end
section
variable {p : Program} {l : Launch} {e : Env} {R : Room} {s : State} {m : MethodId} {args : Array Value} {below : List Frame} {meth : Method} {c : Code} {Z : State} {a0 : Array Value}
theorem loop1 {locs : List Loc} {cells slots : Nat} {h0 : Heap} {n0 : Nat} (a1 : Addr) (cl : Cell) (N : Nat) (f : Nat → Int64) (q : Int32) (hx : p.tables.exec = Jvm.exec) (hZ : Z.Warmed39 s.vm) (hw : ∀ d ∈ tables_1, d.before a0 Z = true) (hby : c.code = prog_63_method_3_code) (hml : c.maxLocals = 3) (hown : s.vm.findClass "com/example/quantiscope/quantiscope/threshold/Bins" = some m.cls) (Z0 : n0 ≤ h0.size) (Ar_a1 : Arr Z h0 a1 cl .long) (hN : N ≤ 5) (L : own_LA cl N f) :
    ∀ (k i : Nat) (T0 : State) (locs : List Loc), N ≤ i + k → i < 2147483648 → Stand p l e R s m args below meth c T0 locs cells slots → T0.heap = h0 → Fr n0 locs →
      ∃ (T' : State) (h' : Heap) (locs' : List Loc) (j : Nat), Stand p l e R s m args below meth c T' locs' cells slots ∧ T'.heap = h' ∧ Fr n0 locs' ∧ n0 ≤ h'.size ∧ h' = h0 ∧ (i ≤ j ∧ j < 2147483648 ∧ (∀ x, i ≤ x → x < j → x < N → f x = 0) ∧ (j < N → f j ≠ 0)) ∧
        ∀ t, Steps p.tables e below (T'.setTop (mkF m 22 #[.val (.ref a1), .val (.int q), .val (.int (Int32.ofNat j))] [])) t → Steps p.tables e below (T0.setTop (mkF m 2 #[.val (.ref a1), .val (.int q), .val (.int (Int32.ofNat i))] [])) t := by
  intro k
  induction k with
  | zero =>
    intro i T0 locs hi hb X0 e0 N0
    obtain ⟨T1, h1, l1, X1, e1, N1, Z1, q1, st1⟩ := lvb a1 cl N f q i X0 hx hZ hw hby hml hown e0 N0 Z0 Ar_a1 hN L (by omega) hb
    exact ⟨T1, h1, l1, i, X1, e1, N1, Z1, q1, ⟨Nat.le_refl _, hb, fun x h1 h2 => by omega, fun h => by omega⟩, st1⟩
  | succ k ih =>
    intro i T0 locs hi hb X0 e0 N0
    by_cases hl : i < N
    · by_cases hz : f i = 0
      · obtain ⟨T1, h1, l1, X1, e1, N1, Z1, q1, st1⟩ := tn1 a1 cl N f q i X0 hx hZ hw hby hml hown e0 N0 Z0 Ar_a1 hN L hl hz
        rw [q1] at e1
        obtain ⟨T2, h2, l2, j, X2, e2, N2, Z2, q2, ⟨b1, b2, b3, b4⟩, st2⟩ := ih (i + 1) T1 l1 (by omega) (by omega) X1 e1 N1
        refine ⟨T2, h2, l2, j, X2, e2, N2, Z2, q2, ⟨by omega, b2, fun x x1 x2 x3 => ?_, b4⟩, fun t k => st1 t ?_⟩
        · by_cases e : x = i
          · subst e; exact hz
          · exact b3 x (by omega) x2 x3
        · rw [own_one]; exact st2 t k
      · obtain ⟨T1, h1, l1, X1, e1, N1, Z1, q1, st1⟩ := lva a1 cl N f q i X0 hx hZ hw hby hml hown e0 N0 Z0 Ar_a1 hN L hl hz
        exact ⟨T1, h1, l1, i, X1, e1, N1, Z1, q1, ⟨Nat.le_refl _, hb, fun x h1 h2 => by omega, fun _ => hz⟩, st1⟩
    · obtain ⟨T1, h1, l1, X1, e1, N1, Z1, q1, st1⟩ := lvb a1 cl N f q i X0 hx hZ hw hby hml hown e0 N0 Z0 Ar_a1 hN L (by omega) hb
      exact ⟨T1, h1, l1, i, X1, e1, N1, Z1, q1, ⟨Nat.le_refl _, hb, fun x h1 h2 => by omega, fun h => by omega⟩, st1⟩
end
theorem d1_0 : decode prog_63_method_3_code 0 = .ok (.iload_n 1, 1) := by decide +kernel
theorem d1_1 : decode prog_63_method_3_code 1 = .ok (.istore_n 2, 1) := by decide +kernel
theorem d1_22 : decode prog_63_method_3_code 22 = .ok (.iload_n 2, 1) := by decide +kernel
theorem d1_23 : decode prog_63_method_3_code 23 = .ok (.aload_n 0, 1) := by decide +kernel
theorem d1_24 : decode prog_63_method_3_code 24 = .ok (.arraylength, 1) := by decide +kernel
theorem d1_25 : decode prog_63_method_3_code 25 = .ok (.if_icmp .ge 7, 3) := by decide +kernel
theorem d1_28 : decode prog_63_method_3_code 28 = .ok (.iload_n 2, 1) := by decide +kernel
theorem d1_29 : decode prog_63_method_3_code 29 = .ok (.goto 4, 3) := by decide +kernel
theorem d1_33 : decode prog_63_method_3_code 33 = .ok (.ireturn, 1) := by decide +kernel
theorem d1_32 : decode prog_63_method_3_code 32 = .ok (.iconst (-1), 1) := by decide +kernel
theorem pn_1 : plainName "com/example/quantiscope/quantiscope/threshold/Bins" = true := by first | (simp [plainName, overriddenIn]; done) | decide +kernel
theorem ef_1_xx (m : MethodId) (x0 : Addr) (x1 : Int32) : entryFrame m #[(.ref x0), (.int x1)] 3 = mkF m 0 #[.val (.ref x0), .val (.int x1), .unset] [] := by first | (simp [entryFrame, mkF, argsToLocals, Value.category]; done) | rfl
def Q1 (Z : State) (a1 : Addr) (cl : Cell) (N : Nat) (f : Nat → Int64) (F : Nat) (h0 : Heap) (n0 : Nat) (v : Option Value) (h : Heap) (L : List Loc) : Prop := ∃ (r : Int32), v = some (.int r) ∧ Fr n0 L ∧ h = h0 ∧ (own_Fst N f F r)
set_option maxRecDepth 65536 in
set_option maxHeartbeats 40000000 in
theorem rm1 (l : Launch) (Z : State) (a0 : Array Value) (hw : ∀ d ∈ tables_1, d.before a0 Z = true) (ws : List Jvm.Cond) (a1 : Addr) (cl : Cell) (N : Nat) (f : Nat → Int64) (F : Nat) (h0 : Heap) (n0 : Nat) (Z0 : n0 ≤ h0.size) (Ar_a1 : Arr Z h0 a1 cl .long) (hN : N ≤ 5) (L : own_LA cl N f) (hF : F < 2147483648) :
    MetFree l (⟨"com/example/quantiscope/quantiscope/threshold/Bins", "first", "([JI)I"⟩ : MethodName) (head1 (Jvm.Cond.code (⟨"com/example/quantiscope/quantiscope/threshold/Bins", "first", "([JI)I"⟩ : MethodName) prog_63_method_3_code 3 (some .int) :: ws) ({ frames := 0, cells := 0, slots := 0, locals := 0 } : Room)) (fun a U => a = #[(.ref a1), (.int (Int32.ofNat F))] ∧ Z.Warmed39 U.vm ∧ U.heap = h0) (fun _ _ _ _ _ => True) (fun _ U o U' => ∃ v L, o = .returned v ∧ Q1 Z a1 cl N f F h0 n0 v U'.heap L ∧ FrameEnd U o U' L ({ frames := 0, cells := 0, slots := 0, locals := 0 } : Room).cells ({ frames := 0, cells := 0, slots := 0, locals := 0 } : Room).slots) := by
  refine MetFree.of_bodySF (plainFor_of_name pn_1) hisR ?_
  intro p e s m args below meth c s₁ Bd hml0 hP hK
  obtain ⟨rfl, hZ, hh⟩ := hP
  have hx := Bd.exec
  have hby := Bd.bytes
  have hml : c.maxLocals = 3 := hml0
  have hown : s.vm.findClass "com/example/quantiscope/quantiscope/threshold/Bins" = some m.cls := findClass_of_methodNamed Bd.named
  have hnm := (name_of_methodNamed Bd.named Bd.method).1
  have X0 : Stand p l e ({ frames := 0, cells := 0, slots := 0, locals := 0 } : Room) s m #[(.ref a1), (.int (Int32.ofNat F))] below meth c s₁ [] 0 0 := Stand.of_body Bd
  have e0 : s₁.heap = h0 := by rw [← hh, Bd.state]; rfl
  have N0 := Fr.nil n0
  have pre0 : ∀ t, Steps p.tables e below (s₁.setTop (mkF m 0 #[.val (.ref a1), .val (.int (Int32.ofNat F)), .unset] [])) t → Steps p.tables e below (s₁.setTop (entryFrame m #[(.ref a1), (.int (Int32.ofNat F))] 3)) t := fun t k => castTop (ef_1_xx m a1 (Int32.ofNat F)) k
  have J1 : ∀ t, Steps p.tables e below (s₁.setTop (mkF m 2 #[.val (.ref a1), .val (.int (Int32.ofNat F)), .val (.int (Int32.ofNat F))] [])) t → Steps p.tables e below (s₁.setTop (entryFrame m #[(.ref a1), (.int (Int32.ofNat F))] 3)) t := fun t k => pre0 t (by
      show Steps p.tables e below (s₁.setTop (mkF m 0 #[.val (.ref a1), .val (.int (Int32.ofNat F)), .unset] [])) _
      refine XS.iloadN X0.here hx rfl (hb hby d1_0) rfl ?_
      show Steps p.tables e below (s₁.setTop (mkF m 1 #[.val (.ref a1), .val (.int (Int32.ofNat F)), .unset] [(.int (Int32.ofNat F))])) _
      refine XS.istoreN X0.here hx rfl (hb hby d1_1) rfl (l' := #[.val (.ref a1), .val (.int (Int32.ofNat F)), .val (.int (Int32.ofNat F))]) rfl ?_
      exact k)
  obtain ⟨T2, h2, lo2, j_2, X2, e2, N2, Z2, q2, p2_1, st2⟩ := loop1 (locs := []) a1 cl N f (Int32.ofNat F) hx hZ hw hby hml hown Z0 Ar_a1 hN L N F _ _ (by omega) hF X0 e0 N0
  rw [q2] at e2
  have J3 : ∀ t, Steps p.tables e below (T2.setTop (mkF m 22 #[.val (.ref a1), .val (.int (Int32.ofNat F)), .val (.int (Int32.ofNat j_2))] [])) t → Steps p.tables e below (s₁.setTop (entryFrame m #[(.ref a1), (.int (Int32.ofNat F))] 3)) t := fun t k => J1 t (st2 t k)
  obtain ⟨j1, j2, j3, j4⟩ := p2_1
  have J4 : ∀ t, Steps p.tables e below (T2.setTop (mkF m 25 #[.val (.ref a1), .val (.int (Int32.ofNat F)), .val (.int (Int32.ofNat j_2))] [(.int (Int32.ofNat N)), (.int (Int32.ofNat j_2))])) t → Steps p.tables e below (s₁.setTop (entryFrame m #[(.ref a1), (.int (Int32.ofNat F))] 3)) t := fun t k => J3 t (by
      show Steps p.tables e below (T2.setTop (mkF m 22 #[.val (.ref a1), .val (.int (Int32.ofNat F)), .val (.int (Int32.ofNat j_2))] [])) _
      refine XS.iloadN X2.here hx rfl (hb hby d1_22) rfl ?_
      show Steps p.tables e below (T2.setTop (mkF m 23 #[.val (.ref a1), .val (.int (Int32.ofNat F)), .val (.int (Int32.ofNat j_2))] [(.int (Int32.ofNat j_2))])) _
      refine XS.aloadN X2.here hx rfl (hb hby d1_23) rfl rfl ?_
      show Steps p.tables e below (T2.setTop (mkF m 24 #[.val (.ref a1), .val (.int (Int32.ofNat F)), .val (.int (Int32.ofNat j_2))] [(.ref a1), (.int (Int32.ofNat j_2))])) _
      refine X2.arraylength hx (cell := cl) (by rw [e2]; exact Ar_a1.1) (State.isArrayOf_alike hZ.alike Ar_a1.2.1) (g := (mkF m 24 #[.val (.ref a1), .val (.int (Int32.ofNat F)), .val (.int (Int32.ofNat j_2))] [(.ref a1), (.int (Int32.ofNat j_2))])) rfl (rest := [(.int (Int32.ofNat j_2))]) rfl (hb hby d1_24) _ ?_
      rw [(own_size L)]
      exact k)
  by_cases hjN : j_2 < N
  ·
    have J5 : ∀ t, Steps p.tables e below (T2.setTop (mkF m 33 #[.val (.ref a1), .val (.int (Int32.ofNat F)), .val (.int (Int32.ofNat j_2))] [(.int (Int32.ofNat j_2))])) t → Steps p.tables e below (s₁.setTop (entryFrame m #[(.ref a1), (.int (Int32.ofNat F))] 3)) t := fun t k => J4 t (by
        show Steps p.tables e below (T2.setTop (mkF m 25 #[.val (.ref a1), .val (.int (Int32.ofNat F)), .val (.int (Int32.ofNat j_2))] [(.int (Int32.ofNat N)), (.int (Int32.ofNat j_2))])) _
        refine XS.icmpNo X2.here hx rfl (hb hby d1_25) rfl (tlt (own_lt hjN (by omega))).2.1 ?_
        show Steps p.tables e below (T2.setTop (mkF m 28 #[.val (.ref a1), .val (.int (Int32.ofNat F)), .val (.int (Int32.ofNat j_2))] [])) _
        refine XS.iloadN X2.here hx rfl (hb hby d1_28) rfl ?_
        show Steps p.tables e below (T2.setTop (mkF m 29 #[.val (.ref a1), .val (.int (Int32.ofNat F)), .val (.int (Int32.ofNat j_2))] [(.int (Int32.ofNat j_2))])) _
        refine XS.goto X2.here hx rfl (pc0 := 29) (pc' := 33) rfl (hb hby d1_29) (by decide) (by decide) ?_
        exact k)
    obtain ⟨fs, hr, hrun, hended, hW, hsame⟩ := X2.leave (v := some (.int (Int32.ofNat j_2))) (fun h => by rw [Bd.returns] at h; cases h)
    refine ⟨_, _, J5 _ ?_, hrun, hended, _, _, rfl, ?_, ⟨_, rfl⟩, hW, hsame.mono (by decide) (by decide)⟩
    · show Steps p.tables e below (T2.setTop (mkF m 33 #[.val (.ref a1), .val (.int (Int32.ofNat F)), .val (.int (Int32.ofNat j_2))] [(.int (Int32.ofNat j_2))])) _
      exact retI X2 hx Bd.returns (hb hby d1_33) hr
    · show Q1 Z a1 cl N f F h0 n0 _ T2.heap _
      rw [e2]
      exact ⟨(Int32.ofNat j_2), rfl, N2, rfl, (Or.inl ⟨j_2, hjN, j1, j4 hjN, fun x x1 x2 => j3 x x1 x2 (by omega), rfl⟩)⟩
  ·
    have J6 : ∀ t, Steps p.tables e below (T2.setTop (mkF m 33 #[.val (.ref a1), .val (.int (Int32.ofNat F)), .val (.int (Int32.ofNat j_2))] [(.int (-1 : Int32))])) t → Steps p.tables e below (s₁.setTop (entryFrame m #[(.ref a1), (.int (Int32.ofNat F))] 3)) t := fun t k => J4 t (by
        show Steps p.tables e below (T2.setTop (mkF m 25 #[.val (.ref a1), .val (.int (Int32.ofNat F)), .val (.int (Int32.ofNat j_2))] [(.int (Int32.ofNat N)), (.int (Int32.ofNat j_2))])) _
        refine XS.icmpYes X2.here hx rfl (pc0 := 25) (pc' := 32) rfl (hb hby d1_25) rfl (flt (own_nlt (Nat.le_of_not_lt hjN) j2)).2.1 (by decide) (by decide) ?_
        show Steps p.tables e below (T2.setTop (mkF m 32 #[.val (.ref a1), .val (.int (Int32.ofNat F)), .val (.int (Int32.ofNat j_2))] [])) _
        refine XS.iconst X2.here hx rfl (hb hby d1_32) ?_
        exact k)
    obtain ⟨fs, hr, hrun, hended, hW, hsame⟩ := X2.leave (v := some (.int (-1 : Int32))) (fun h => by rw [Bd.returns] at h; cases h)
    refine ⟨_, _, J6 _ ?_, hrun, hended, _, _, rfl, ?_, ⟨_, rfl⟩, hW, hsame.mono (by decide) (by decide)⟩
    · show Steps p.tables e below (T2.setTop (mkF m 33 #[.val (.ref a1), .val (.int (Int32.ofNat F)), .val (.int (Int32.ofNat j_2))] [(.int (-1 : Int32))])) _
      exact retI X2 hx Bd.returns (hb hby d1_33) hr
    · show Q1 Z a1 cl N f F h0 n0 _ T2.heap _
      rw [e2]
      exact ⟨(-1 : Int32), rfl, N2, rfl, (Or.inr ⟨fun x x1 x2 => j3 x x1 (by omega) x2, rfl⟩)⟩
theorem pd_0 : parseMethodDescriptor "(JI)J" = some ⟨[.long, .int], some .long⟩ := by decide +kernel
theorem pd_1 : parseMethodDescriptor "([JI)I" = some ⟨[(.array .long), .int], some .int⟩ := by decide +kernel
theorem pn_0 : plainName "com/example/quantiscope/quantiscope/threshold/BinsFirstPinLaw" = true := by first | (simp [plainName, overriddenIn]; done) | decide +kernel
theorem ef_0_xxxxx (m : MethodId) (x0 : Int32) (x1 : Int32) (x2 : Int64) (x3 : Int32) (x4 : Int32) : entryFrame m #[(.int x0), (.int x1), (.long x2), (.int x3), (.int x4)] maxLocals = mkF m 0 #[.val (.int x0), .val (.int x1), .val (.long x2), .second, .val (.int x3), .val (.int x4), .unset, .unset, .unset, .unset, .unset, .unset, .unset, .unset, .unset] [] := by first | (simp [entryFrame, mkF, argsToLocals, Value.category, maxLocals]; done) | rfl
def Q0 (Z : State) (p1 : Int32) (p2 : Int32) (q3 : Int64) (p4 : Int32) (p5 : Int32) (h0 : Heap) (n0 : Nat) (v : Option Value) (h : Heap) (L : List Loc) : Prop := v = some (.int (1 : Int32)) ∧ Fr n0 L
set_option maxRecDepth 65536 in
set_option maxHeartbeats 40000000 in
theorem rm0 (l : Launch) (Z : State) (a0 : Array Value) (hw : ∀ d ∈ tables_1, d.before a0 Z = true) (ws : List Jvm.Cond) (p1 : Int32) (p2 : Int32) (q3 : Int64) (p4 : Int32) (p5 : Int32) (h0 : Heap) (n0 : Nat) (Z0 : n0 ≤ h0.size) :
    MetFree l x (head1 (Jvm.Cond.code x code maxLocals ret :: ws) room_1) (fun a U => a = #[(.int p1), (.int p2), (.long q3), (.int p4), (.int p5)] ∧ Z.Warmed39 U.vm ∧ U.heap = h0) (fun _ _ _ _ _ => True) (fun _ U o U' => ∃ v L, o = .returned v ∧ Q0 Z p1 p2 q3 p4 p5 h0 n0 v U'.heap L ∧ FrameEnd U o U' L room_1.cells room_1.slots) := by
  refine MetFree.of_bodySF (plainFor_of_name pn_0) hisR ?_
  intro p e s m args below meth c s₁ Bd hml0 hP hK
  obtain ⟨rfl, hZ, hh⟩ := hP
  have hx := Bd.exec
  have hby := Bd.bytes
  have hml : c.maxLocals = 15 := hml0
  have hown : s.vm.findClass "com/example/quantiscope/quantiscope/threshold/BinsFirstPinLaw" = some m.cls := findClass_of_methodNamed Bd.named
  have hnm := (name_of_methodNamed Bd.named Bd.method).1
  have X0 : Stand p l e room_1 s m #[(.int p1), (.int p2), (.long q3), (.int p4), (.int p5)] below meth c s₁ [] 0 0 := Stand.of_body Bd
  have e0 : s₁.heap = h0 := by rw [← hh, Bd.state]; rfl
  have N0 := Fr.nil n0
  have pre0 : ∀ t, Steps p.tables e below (s₁.setTop (mkF m 0 #[.val (.int p1), .val (.int p2), .val (.long q3), .second, .val (.int p4), .val (.int p5), .unset, .unset, .unset, .unset, .unset, .unset, .unset, .unset, .unset] [])) t → Steps p.tables e below (s₁.setTop (entryFrame m #[(.int p1), (.int p2), (.long q3), (.int p4), (.int p5)] maxLocals)) t := fun t k => castTop (ef_0_xxxxx m p1 p2 q3 p4 p5) k
  have J1 : ∀ t, Steps p.tables e below (s₁.setTop (mkF m 9 #[.val (.int p1), .val (.int p2), .val (.long q3), .second, .val (.int p4), .val (.int p5), .val (.int ((p1 &&& (2147483647 : Int32)) % (6 : Int32))), .unset, .unset, .unset, .unset, .unset, .unset, .unset, .unset] [])) t → Steps p.tables e below (s₁.setTop (entryFrame m #[(.int p1), (.int p2), (.long q3), (.int p4), (.int p5)] maxLocals)) t := fun t k => pre0 t (by
      show Steps p.tables e below (s₁.setTop (mkF m 0 #[.val (.int p1), .val (.int p2), .val (.long q3), .second, .val (.int p4), .val (.int p5), .unset, .unset, .unset, .unset, .unset, .unset, .unset, .unset, .unset] [])) _
      refine XS.iloadN X0.here hx rfl (hb hby at_0) rfl ?_
      show Steps p.tables e below (s₁.setTop (mkF m 1 #[.val (.int p1), .val (.int p2), .val (.long q3), .second, .val (.int p4), .val (.int p5), .unset, .unset, .unset, .unset, .unset, .unset, .unset, .unset, .unset] [(.int p1)])) _
      refine X0.ldcInt hx hown (mvT hZ (hw _ (List.mem_of_getElem? (i := 0) rfl))) (g := (mkF m 1 #[.val (.int p1), .val (.int p2), .val (.long q3), .second, .val (.int p4), .val (.int p5), .unset, .unset, .unset, .unset, .unset, .unset, .unset, .unset, .unset] [(.int p1)])) rfl (hb hby at_1) _ ?_
      show Steps p.tables e below (s₁.setTop (mkF m 3 #[.val (.int p1), .val (.int p2), .val (.long q3), .second, .val (.int p4), .val (.int p5), .unset, .unset, .unset, .unset, .unset, .unset, .unset, .unset, .unset] [(.int (2147483647 : Int32)), (.int p1)])) _
      refine XS.iand X0.here hx rfl (hb hby at_3) rfl ?_
      show Steps p.tables e below (s₁.setTop (mkF m 4 #[.val (.int p1), .val (.int p2), .val (.long q3), .second, .val (.int p4), .val (.int p5), .unset, .unset, .unset, .unset, .unset, .unset, .unset, .unset, .unset] [(.int (p1 &&& (2147483647 : Int32)))])) _
      refine XS.bipush X0.here hx rfl (hb hby at_4) ?_
      show Steps p.tables e below (s₁.setTop (mkF m 6 #[.val (.int p1), .val (.int p2), .val (.long q3), .second, .val (.int p4), .val (.int p5), .unset, .unset, .unset, .unset, .unset, .unset, .unset, .unset, .unset] [(.int (6 : Int32)), (.int (p1 &&& (2147483647 : Int32)))])) _
      refine iremM X0 hx rfl (hb hby at_6) rfl (by decide) ?_
      show Steps p.tables e below (s₁.setTop (mkF m 7 #[.val (.int p1), .val (.int p2), .val (.long q3), .second, .val (.int p4), .val (.int p5), .unset, .unset, .unset, .unset, .unset, .unset, .unset, .unset, .unset] [(.int ((p1 &&& (2147483647 : Int32)) % (6 : Int32)))])) _
      refine XS.istore X0.here hx rfl (hb hby at_7) rfl (l' := #[.val (.int p1), .val (.int p2), .val (.long q3), .second, .val (.int p4), .val (.int p5), .val (.int ((p1 &&& (2147483647 : Int32)) % (6 : Int32))), .unset, .unset, .unset, .unset, .unset, .unset, .unset, .unset]) rfl ?_
      exact k)
  obtain ⟨n, hn⟩ : ∃ z : Int32, z = ((p1 &&& (2147483647 : Int32)) % (6 : Int32)) := ⟨_, rfl⟩
  have J2 : ∀ t, Steps p.tables e below (s₁.setTop (mkF m 9 #[.val (.int p1), .val (.int p2), .val (.long q3), .second, .val (.int p4), .val (.int p5), .val (.int n), .unset, .unset, .unset, .unset, .unset, .unset, .unset, .unset] [])) t → Steps p.tables e below (s₁.setTop (entryFrame m #[(.int p1), (.int p2), (.long q3), (.int p4), (.int p5)] maxLocals)) t := fun t k => J1 t (by subst hn; exact k)
  obtain ⟨N, hN, rfl⟩ := own_len p1 n hn
  obtain ⟨u0_, hu0_⟩ : ∃ z : Int32, z = (if (0 : Int32) < (Int32.ofNat N) then (if (p2 &&& (1 : Int32)) = (0 : Int32) then (0 : Int32) else (1 : Int32)) else (0 : Int32)) := ⟨_, rfl⟩
  have ps3 : ∀ t, Steps p.tables e below (s₁.setTop (mkF m 25 #[.val (.int p1), .val (.int p2), .val (.long q3), .second, .val (.int p4), .val (.int p5), .val (.int (Int32.ofNat N)), .unset, .unset, .unset, .unset, .unset, .unset, .unset, .unset] [(.int u0_)])) t → Steps p.tables e below (s₁.setTop (mkF m 9 #[.val (.int p1), .val (.int p2), .val (.long q3), .second, .val (.int p4), .val (.int p5), .val (.int (Int32.ofNat N)), .unset, .unset, .unset, .unset, .unset, .unset, .unset, .unset] [])) t := by
    intro t k
    show Steps p.tables e below (s₁.setTop (mkF m 9 #[.val (.int p1), .val (.int p2), .val (.long q3), .second, .val (.int p4), .val (.int p5), .val (.int (Int32.ofNat N)), .unset, .unset, .unset, .unset, .unset, .unset, .unset, .unset] [])) _
    refine XS.iload X0.here hx rfl (hb hby at_9) rfl ?_
    by_cases hm11_0 : (0 : Int32) < (Int32.ofNat N)
    ·
      show Steps p.tables e below (s₁.setTop (mkF m 11 #[.val (.int p1), .val (.int p2), .val (.long q3), .second, .val (.int p4), .val (.int p5), .val (.int (Int32.ofNat N)), .unset, .unset, .unset, .unset, .unset, .unset, .unset, .unset] [(.int (Int32.ofNat N))])) _
      refine XS.ifNo X0.here hx rfl (hb hby at_11) rfl ((if0 _ _).trans (tlt hm11_0).2.2.2) ?_
      show Steps p.tables e below (s₁.setTop (mkF m 14 #[.val (.int p1), .val (.int p2), .val (.long q3), .second, .val (.int p4), .val (.int p5), .val (.int (Int32.ofNat N)), .unset, .unset, .unset, .unset, .unset, .unset, .unset, .unset] [])) _
      refine XS.iloadN X0.here hx rfl (hb hby at_14) rfl ?_
      show Steps p.tables e below (s₁.setTop (mkF m 15 #[.val (.int p1), .val (.int p2), .val (.long q3), .second, .val (.int p4), .val (.int p5), .val (.int (Int32.ofNat N)), .unset, .unset, .unset, .unset, .unset, .unset, .unset, .unset] [(.int p2)])) _
      refine XS.iconst X0.here hx rfl (hb hby at_15) ?_
      show Steps p.tables e below (s₁.setTop (mkF m 16 #[.val (.int p1), .val (.int p2), .val (.long q3), .second, .val (.int p4), .val (.int p5), .val (.int (Int32.ofNat N)), .unset, .unset, .unset, .unset, .unset, .unset, .unset, .unset] [(.int (1 : Int32)), (.int p2)])) _
      refine XS.iand X0.here hx rfl (hb hby at_16) rfl ?_
      by_cases hm17_1 : (p2 &&& (1 : Int32)) = (0 : Int32)
      ·
        show Steps p.tables e below (s₁.setTop (mkF m 17 #[.val (.int p1), .val (.int p2), .val (.long q3), .second, .val (.int p4), .val (.int p5), .val (.int (Int32.ofNat N)), .unset, .unset, .unset, .unset, .unset, .unset, .unset, .unset] [(.int (p2 &&& (1 : Int32)))])) _
        refine XS.ifYes X0.here hx rfl (pc0 := 17) (pc' := 24) rfl (hb hby at_17) rfl ((if0 _ _).trans (teq hm17_1).1) (by decide) (by decide) ?_
        show Steps p.tables e below (s₁.setTop (mkF m 24 #[.val (.int p1), .val (.int p2), .val (.long q3), .second, .val (.int p4), .val (.int p5), .val (.int (Int32.ofNat N)), .unset, .unset, .unset, .unset, .unset, .unset, .unset, .unset] [])) _
        refine XS.iconst X0.here hx rfl (hb hby at_24) ?_
        have qu0_ : u0_ = (0 : Int32) := by rw [hu0_]; simp only [hm11_0, hm17_1, if_true, if_false, reduceIte]
        rw [qu0_] at k
        exact k
      ·
        show Steps p.tables e below (s₁.setTop (mkF m 17 #[.val (.int p1), .val (.int p2), .val (.long q3), .second, .val (.int p4), .val (.int p5), .val (.int (Int32.ofNat N)), .unset, .unset, .unset, .unset, .unset, .unset, .unset, .unset] [(.int (p2 &&& (1 : Int32)))])) _
        refine XS.ifNo X0.here hx rfl (hb hby at_17) rfl ((if0 _ _).trans (feq hm17_1).1) ?_
        show Steps p.tables e below (s₁.setTop (mkF m 20 #[.val (.int p1), .val (.int p2), .val (.long q3), .second, .val (.int p4), .val (.int p5), .val (.int (Int32.ofNat N)), .unset, .unset, .unset, .unset, .unset, .unset, .unset, .unset] [])) _
        refine XS.iconst X0.here hx rfl (hb hby at_20) ?_
        show Steps p.tables e below (s₁.setTop (mkF m 21 #[.val (.int p1), .val (.int p2), .val (.long q3), .second, .val (.int p4), .val (.int p5), .val (.int (Int32.ofNat N)), .unset, .unset, .unset, .unset, .unset, .unset, .unset, .unset] [(.int (1 : Int32))])) _
        refine XS.goto X0.here hx rfl (pc0 := 21) (pc' := 25) rfl (hb hby at_21) (by decide) (by decide) ?_
        have qu0_ : u0_ = (1 : Int32) := by rw [hu0_]; simp only [hm11_0, hm17_1, if_true, if_false, reduceIte]
        rw [qu0_] at k
        exact k
    ·
      show Steps p.tables e below (s₁.setTop (mkF m 11 #[.val (.int p1), .val (.int p2), .val (.long q3), .second, .val (.int p4), .val (.int p5), .val (.int (Int32.ofNat N)), .unset, .unset, .unset, .unset, .unset, .unset, .unset, .unset] [(.int (Int32.ofNat N))])) _
      refine XS.ifYes X0.here hx rfl (pc0 := 11) (pc' := 24) rfl (hb hby at_11) rfl ((if0 _ _).trans (flt hm11_0).2.2.2) (by decide) (by decide) ?_
      show Steps p.tables e below (s₁.setTop (mkF m 24 #[.val (.int p1), .val (.int p2), .val (.long q3), .second, .val (.int p4), .val (.int p5), .val (.int (Int32.ofNat N)), .unset, .unset, .unset, .unset, .unset, .unset, .unset, .unset] [])) _
      refine XS.iconst X0.here hx rfl (hb hby at_24) ?_
      have qu0_ : u0_ = (0 : Int32) := by rw [hu0_]; simp only [hm11_0, if_true, if_false, reduceIte]
      rw [qu0_] at k
      exact k
  have J4 : ∀ t, Steps p.tables e below (s₁.setTop (mkF m 25 #[.val (.int p1), .val (.int p2), .val (.long q3), .second, .val (.int p4), .val (.int p5), .val (.int (Int32.ofNat N)), .unset, .unset, .unset, .unset, .unset, .unset, .unset, .unset] [(.int u0_)])) t → Steps p.tables e below (s₁.setTop (entryFrame m #[(.int p1), (.int p2), (.long q3), (.int p4), (.int p5)] maxLocals)) t := fun t k => J2 t (ps3 t k)
  have J5 : ∀ t, Steps p.tables e below (s₁.setTop (mkF m 27 #[.val (.int p1), .val (.int p2), .val (.long q3), .second, .val (.int p4), .val (.int p5), .val (.int (Int32.ofNat N)), .val (.int u0_), .unset, .unset, .unset, .unset, .unset, .unset, .unset] [])) t → Steps p.tables e below (s₁.setTop (entryFrame m #[(.int p1), (.int p2), (.long q3), (.int p4), (.int p5)] maxLocals)) t := fun t k => J4 t (by
      show Steps p.tables e below (s₁.setTop (mkF m 25 #[.val (.int p1), .val (.int p2), .val (.long q3), .second, .val (.int p4), .val (.int p5), .val (.int (Int32.ofNat N)), .unset, .unset, .unset, .unset, .unset, .unset, .unset, .unset] [(.int u0_)])) _
      refine XS.istore X0.here hx rfl (hb hby at_25) rfl (l' := #[.val (.int p1), .val (.int p2), .val (.long q3), .second, .val (.int p4), .val (.int p5), .val (.int (Int32.ofNat N)), .val (.int u0_), .unset, .unset, .unset, .unset, .unset, .unset, .unset]) rfl ?_
      exact k)
  obtain ⟨u1_, hu1_⟩ : ∃ z : Int32, z = (if (1 : Int32) < (Int32.ofNat N) then (if (p2 &&& (2 : Int32)) = (0 : Int32) then (0 : Int32) else (1 : Int32)) else (0 : Int32)) := ⟨_, rfl⟩
  have ps6 : ∀ t, Steps p.tables e below (s₁.setTop (mkF m 44 #[.val (.int p1), .val (.int p2), .val (.long q3), .second, .val (.int p4), .val (.int p5), .val (.int (Int32.ofNat N)), .val (.int u0_), .unset, .unset, .unset, .unset, .unset, .unset, .unset] [(.int u1_)])) t → Steps p.tables e below (s₁.setTop (mkF m 27 #[.val (.int p1), .val (.int p2), .val (.long q3), .second, .val (.int p4), .val (.int p5), .val (.int (Int32.ofNat N)), .val (.int u0_), .unset, .unset, .unset, .unset, .unset, .unset, .unset] [])) t := by
    intro t k
    show Steps p.tables e below (s₁.setTop (mkF m 27 #[.val (.int p1), .val (.int p2), .val (.long q3), .second, .val (.int p4), .val (.int p5), .val (.int (Int32.ofNat N)), .val (.int u0_), .unset, .unset, .unset, .unset, .unset, .unset, .unset] [])) _
    refine XS.iload X0.here hx rfl (hb hby at_27) rfl ?_
    show Steps p.tables e below (s₁.setTop (mkF m 29 #[.val (.int p1), .val (.int p2), .val (.long q3), .second, .val (.int p4), .val (.int p5), .val (.int (Int32.ofNat N)), .val (.int u0_), .unset, .unset, .unset, .unset, .unset, .unset, .unset] [(.int (Int32.ofNat N))])) _
    refine XS.iconst X0.here hx rfl (hb hby at_29) ?_
    by_cases hm30_0 : (1 : Int32) < (Int32.ofNat N)
    ·
      show Steps p.tables e below (s₁.setTop (mkF m 30 #[.val (.int p1), .val (.int p2), .val (.long q3), .second, .val (.int p4), .val (.int p5), .val (.int (Int32.ofNat N)), .val (.int u0_), .unset, .unset, .unset, .unset, .unset, .unset, .unset] [(.int (1 : Int32)), (.int (Int32.ofNat N))])) _
      refine XS.icmpNo X0.here hx rfl (hb hby at_30) rfl (tlt hm30_0).2.2.2 ?_
      show Steps p.tables e below (s₁.setTop (mkF m 33 #[.val (.int p1), .val (.int p2), .val (.long q3), .second, .val (.int p4), .val (.int p5), .val (.int (Int32.ofNat N)), .val (.int u0_), .unset, .unset, .unset, .unset, .unset, .unset, .unset] [])) _
      refine XS.iloadN X0.here hx rfl (hb hby at_33) rfl ?_
      show Steps p.tables e below (s₁.setTop (mkF m 34 #[.val (.int p1), .val (.int p2), .val (.long q3), .second, .val (.int p4), .val (.int p5), .val (.int (Int32.ofNat N)), .val (.int u0_), .unset, .unset, .unset, .unset, .unset, .unset, .unset] [(.int p2)])) _
      refine XS.iconst X0.here hx rfl (hb hby at_34) ?_
      show Steps p.tables e below (s₁.setTop (mkF m 35 #[.val (.int p1), .val (.int p2), .val (.long q3), .second, .val (.int p4), .val (.int p5), .val (.int (Int32.ofNat N)), .val (.int u0_), .unset, .unset, .unset, .unset, .unset, .unset, .unset] [(.int (2 : Int32)), (.int p2)])) _
      refine XS.iand X0.here hx rfl (hb hby at_35) rfl ?_
      by_cases hm36_1 : (p2 &&& (2 : Int32)) = (0 : Int32)
      ·
        show Steps p.tables e below (s₁.setTop (mkF m 36 #[.val (.int p1), .val (.int p2), .val (.long q3), .second, .val (.int p4), .val (.int p5), .val (.int (Int32.ofNat N)), .val (.int u0_), .unset, .unset, .unset, .unset, .unset, .unset, .unset] [(.int (p2 &&& (2 : Int32)))])) _
        refine XS.ifYes X0.here hx rfl (pc0 := 36) (pc' := 43) rfl (hb hby at_36) rfl ((if0 _ _).trans (teq hm36_1).1) (by decide) (by decide) ?_
        show Steps p.tables e below (s₁.setTop (mkF m 43 #[.val (.int p1), .val (.int p2), .val (.long q3), .second, .val (.int p4), .val (.int p5), .val (.int (Int32.ofNat N)), .val (.int u0_), .unset, .unset, .unset, .unset, .unset, .unset, .unset] [])) _
        refine XS.iconst X0.here hx rfl (hb hby at_43) ?_
        have qu1_ : u1_ = (0 : Int32) := by rw [hu1_]; simp only [hm30_0, hm36_1, if_true, if_false, reduceIte]
        rw [qu1_] at k
        exact k
      ·
        show Steps p.tables e below (s₁.setTop (mkF m 36 #[.val (.int p1), .val (.int p2), .val (.long q3), .second, .val (.int p4), .val (.int p5), .val (.int (Int32.ofNat N)), .val (.int u0_), .unset, .unset, .unset, .unset, .unset, .unset, .unset] [(.int (p2 &&& (2 : Int32)))])) _
        refine XS.ifNo X0.here hx rfl (hb hby at_36) rfl ((if0 _ _).trans (feq hm36_1).1) ?_
        show Steps p.tables e below (s₁.setTop (mkF m 39 #[.val (.int p1), .val (.int p2), .val (.long q3), .second, .val (.int p4), .val (.int p5), .val (.int (Int32.ofNat N)), .val (.int u0_), .unset, .unset, .unset, .unset, .unset, .unset, .unset] [])) _
        refine XS.iconst X0.here hx rfl (hb hby at_39) ?_
        show Steps p.tables e below (s₁.setTop (mkF m 40 #[.val (.int p1), .val (.int p2), .val (.long q3), .second, .val (.int p4), .val (.int p5), .val (.int (Int32.ofNat N)), .val (.int u0_), .unset, .unset, .unset, .unset, .unset, .unset, .unset] [(.int (1 : Int32))])) _
        refine XS.goto X0.here hx rfl (pc0 := 40) (pc' := 44) rfl (hb hby at_40) (by decide) (by decide) ?_
        have qu1_ : u1_ = (1 : Int32) := by rw [hu1_]; simp only [hm30_0, hm36_1, if_true, if_false, reduceIte]
        rw [qu1_] at k
        exact k
    ·
      show Steps p.tables e below (s₁.setTop (mkF m 30 #[.val (.int p1), .val (.int p2), .val (.long q3), .second, .val (.int p4), .val (.int p5), .val (.int (Int32.ofNat N)), .val (.int u0_), .unset, .unset, .unset, .unset, .unset, .unset, .unset] [(.int (1 : Int32)), (.int (Int32.ofNat N))])) _
      refine XS.icmpYes X0.here hx rfl (pc0 := 30) (pc' := 43) rfl (hb hby at_30) rfl (flt hm30_0).2.2.2 (by decide) (by decide) ?_
      show Steps p.tables e below (s₁.setTop (mkF m 43 #[.val (.int p1), .val (.int p2), .val (.long q3), .second, .val (.int p4), .val (.int p5), .val (.int (Int32.ofNat N)), .val (.int u0_), .unset, .unset, .unset, .unset, .unset, .unset, .unset] [])) _
      refine XS.iconst X0.here hx rfl (hb hby at_43) ?_
      have qu1_ : u1_ = (0 : Int32) := by rw [hu1_]; simp only [hm30_0, if_true, if_false, reduceIte]
      rw [qu1_] at k
      exact k
  have J7 : ∀ t, Steps p.tables e below (s₁.setTop (mkF m 44 #[.val (.int p1), .val (.int p2), .val (.long q3), .second, .val (.int p4), .val (.int p5), .val (.int (Int32.ofNat N)), .val (.int u0_), .unset, .unset, .unset, .unset, .unset, .unset, .unset] [(.int u1_)])) t → Steps p.tables e below (s₁.setTop (entryFrame m #[(.int p1), (.int p2), (.long q3), (.int p4), (.int p5)] maxLocals)) t := fun t k => J5 t (ps6 t k)
  have J8 : ∀ t, Steps p.tables e below (s₁.setTop (mkF m 46 #[.val (.int p1), .val (.int p2), .val (.long q3), .second, .val (.int p4), .val (.int p5), .val (.int (Int32.ofNat N)), .val (.int u0_), .val (.int u1_), .unset, .unset, .unset, .unset, .unset, .unset] [])) t → Steps p.tables e below (s₁.setTop (entryFrame m #[(.int p1), (.int p2), (.long q3), (.int p4), (.int p5)] maxLocals)) t := fun t k => J7 t (by
      show Steps p.tables e below (s₁.setTop (mkF m 44 #[.val (.int p1), .val (.int p2), .val (.long q3), .second, .val (.int p4), .val (.int p5), .val (.int (Int32.ofNat N)), .val (.int u0_), .unset, .unset, .unset, .unset, .unset, .unset, .unset] [(.int u1_)])) _
      refine XS.istore X0.here hx rfl (hb hby at_44) rfl (l' := #[.val (.int p1), .val (.int p2), .val (.long q3), .second, .val (.int p4), .val (.int p5), .val (.int (Int32.ofNat N)), .val (.int u0_), .val (.int u1_), .unset, .unset, .unset, .unset, .unset, .unset]) rfl ?_
      exact k)
  obtain ⟨u2_, hu2_⟩ : ∃ z : Int32, z = (if (2 : Int32) < (Int32.ofNat N) then (if (p2 &&& (4 : Int32)) = (0 : Int32) then (0 : Int32) else (1 : Int32)) else (0 : Int32)) := ⟨_, rfl⟩
  have ps9 : ∀ t, Steps p.tables e below (s₁.setTop (mkF m 63 #[.val (.int p1), .val (.int p2), .val (.long q3), .second, .val (.int p4), .val (.int p5), .val (.int (Int32.ofNat N)), .val (.int u0_), .val (.int u1_), .unset, .unset, .unset, .unset, .unset, .unset] [(.int u2_)])) t → Steps p.tables e below (s₁.setTop (mkF m 46 #[.val (.int p1), .val (.int p2), .val (.long q3), .second, .val (.int p4), .val (.int p5), .val (.int (Int32.ofNat N)), .val (.int u0_), .val (.int u1_), .unset, .unset, .unset, .unset, .unset, .unset] [])) t := by
    intro t k
    show Steps p.tables e below (s₁.setTop (mkF m 46 #[.val (.int p1), .val (.int p2), .val (.long q3), .second, .val (.int p4), .val (.int p5), .val (.int (Int32.ofNat N)), .val (.int u0_), .val (.int u1_), .unset, .unset, .unset, .unset, .unset, .unset] [])) _
    refine XS.iload X0.here hx rfl (hb hby at_46) rfl ?_
    show Steps p.tables e below (s₁.setTop (mkF m 48 #[.val (.int p1), .val (.int p2), .val (.long q3), .second, .val (.int p4), .val (.int p5), .val (.int (Int32.ofNat N)), .val (.int u0_), .val (.int u1_), .unset, .unset, .unset, .unset, .unset, .unset] [(.int (Int32.ofNat N))])) _
    refine XS.iconst X0.here hx rfl (hb hby at_48) ?_
    by_cases hm49_0 : (2 : Int32) < (Int32.ofNat N)
    ·
      show Steps p.tables e below (s₁.setTop (mkF m 49 #[.val (.int p1), .val (.int p2), .val (.long q3), .second, .val (.int p4), .val (.int p5), .val (.int (Int32.ofNat N)), .val (.int u0_), .val (.int u1_), .unset, .unset, .unset, .unset, .unset, .unset] [(.int (2 : Int32)), (.int (Int32.ofNat N))])) _
      refine XS.icmpNo X0.here hx rfl (hb hby at_49) rfl (tlt hm49_0).2.2.2 ?_
      show Steps p.tables e below (s₁.setTop (mkF m 52 #[.val (.int p1), .val (.int p2), .val (.long q3), .second, .val (.int p4), .val (.int p5), .val (.int (Int32.ofNat N)), .val (.int u0_), .val (.int u1_), .unset, .unset, .unset, .unset, .unset, .unset] [])) _
      refine XS.iloadN X0.here hx rfl (hb hby at_52) rfl ?_
      show Steps p.tables e below (s₁.setTop (mkF m 53 #[.val (.int p1), .val (.int p2), .val (.long q3), .second, .val (.int p4), .val (.int p5), .val (.int (Int32.ofNat N)), .val (.int u0_), .val (.int u1_), .unset, .unset, .unset, .unset, .unset, .unset] [(.int p2)])) _
      refine XS.iconst X0.here hx rfl (hb hby at_53) ?_
      show Steps p.tables e below (s₁.setTop (mkF m 54 #[.val (.int p1), .val (.int p2), .val (.long q3), .second, .val (.int p4), .val (.int p5), .val (.int (Int32.ofNat N)), .val (.int u0_), .val (.int u1_), .unset, .unset, .unset, .unset, .unset, .unset] [(.int (4 : Int32)), (.int p2)])) _
      refine XS.iand X0.here hx rfl (hb hby at_54) rfl ?_
      by_cases hm55_1 : (p2 &&& (4 : Int32)) = (0 : Int32)
      ·
        show Steps p.tables e below (s₁.setTop (mkF m 55 #[.val (.int p1), .val (.int p2), .val (.long q3), .second, .val (.int p4), .val (.int p5), .val (.int (Int32.ofNat N)), .val (.int u0_), .val (.int u1_), .unset, .unset, .unset, .unset, .unset, .unset] [(.int (p2 &&& (4 : Int32)))])) _
        refine XS.ifYes X0.here hx rfl (pc0 := 55) (pc' := 62) rfl (hb hby at_55) rfl ((if0 _ _).trans (teq hm55_1).1) (by decide) (by decide) ?_
        show Steps p.tables e below (s₁.setTop (mkF m 62 #[.val (.int p1), .val (.int p2), .val (.long q3), .second, .val (.int p4), .val (.int p5), .val (.int (Int32.ofNat N)), .val (.int u0_), .val (.int u1_), .unset, .unset, .unset, .unset, .unset, .unset] [])) _
        refine XS.iconst X0.here hx rfl (hb hby at_62) ?_
        have qu2_ : u2_ = (0 : Int32) := by rw [hu2_]; simp only [hm49_0, hm55_1, if_true, if_false, reduceIte]
        rw [qu2_] at k
        exact k
      ·
        show Steps p.tables e below (s₁.setTop (mkF m 55 #[.val (.int p1), .val (.int p2), .val (.long q3), .second, .val (.int p4), .val (.int p5), .val (.int (Int32.ofNat N)), .val (.int u0_), .val (.int u1_), .unset, .unset, .unset, .unset, .unset, .unset] [(.int (p2 &&& (4 : Int32)))])) _
        refine XS.ifNo X0.here hx rfl (hb hby at_55) rfl ((if0 _ _).trans (feq hm55_1).1) ?_
        show Steps p.tables e below (s₁.setTop (mkF m 58 #[.val (.int p1), .val (.int p2), .val (.long q3), .second, .val (.int p4), .val (.int p5), .val (.int (Int32.ofNat N)), .val (.int u0_), .val (.int u1_), .unset, .unset, .unset, .unset, .unset, .unset] [])) _
        refine XS.iconst X0.here hx rfl (hb hby at_58) ?_
        show Steps p.tables e below (s₁.setTop (mkF m 59 #[.val (.int p1), .val (.int p2), .val (.long q3), .second, .val (.int p4), .val (.int p5), .val (.int (Int32.ofNat N)), .val (.int u0_), .val (.int u1_), .unset, .unset, .unset, .unset, .unset, .unset] [(.int (1 : Int32))])) _
        refine XS.goto X0.here hx rfl (pc0 := 59) (pc' := 63) rfl (hb hby at_59) (by decide) (by decide) ?_
        have qu2_ : u2_ = (1 : Int32) := by rw [hu2_]; simp only [hm49_0, hm55_1, if_true, if_false, reduceIte]
        rw [qu2_] at k
        exact k
    ·
      show Steps p.tables e below (s₁.setTop (mkF m 49 #[.val (.int p1), .val (.int p2), .val (.long q3), .second, .val (.int p4), .val (.int p5), .val (.int (Int32.ofNat N)), .val (.int u0_), .val (.int u1_), .unset, .unset, .unset, .unset, .unset, .unset] [(.int (2 : Int32)), (.int (Int32.ofNat N))])) _
      refine XS.icmpYes X0.here hx rfl (pc0 := 49) (pc' := 62) rfl (hb hby at_49) rfl (flt hm49_0).2.2.2 (by decide) (by decide) ?_
      show Steps p.tables e below (s₁.setTop (mkF m 62 #[.val (.int p1), .val (.int p2), .val (.long q3), .second, .val (.int p4), .val (.int p5), .val (.int (Int32.ofNat N)), .val (.int u0_), .val (.int u1_), .unset, .unset, .unset, .unset, .unset, .unset] [])) _
      refine XS.iconst X0.here hx rfl (hb hby at_62) ?_
      have qu2_ : u2_ = (0 : Int32) := by rw [hu2_]; simp only [hm49_0, if_true, if_false, reduceIte]
      rw [qu2_] at k
      exact k
  have J10 : ∀ t, Steps p.tables e below (s₁.setTop (mkF m 63 #[.val (.int p1), .val (.int p2), .val (.long q3), .second, .val (.int p4), .val (.int p5), .val (.int (Int32.ofNat N)), .val (.int u0_), .val (.int u1_), .unset, .unset, .unset, .unset, .unset, .unset] [(.int u2_)])) t → Steps p.tables e below (s₁.setTop (entryFrame m #[(.int p1), (.int p2), (.long q3), (.int p4), (.int p5)] maxLocals)) t := fun t k => J8 t (ps9 t k)
  have J11 : ∀ t, Steps p.tables e below (s₁.setTop (mkF m 65 #[.val (.int p1), .val (.int p2), .val (.long q3), .second, .val (.int p4), .val (.int p5), .val (.int (Int32.ofNat N)), .val (.int u0_), .val (.int u1_), .val (.int u2_), .unset, .unset, .unset, .unset, .unset] [])) t → Steps p.tables e below (s₁.setTop (entryFrame m #[(.int p1), (.int p2), (.long q3), (.int p4), (.int p5)] maxLocals)) t := fun t k => J10 t (by
      show Steps p.tables e below (s₁.setTop (mkF m 63 #[.val (.int p1), .val (.int p2), .val (.long q3), .second, .val (.int p4), .val (.int p5), .val (.int (Int32.ofNat N)), .val (.int u0_), .val (.int u1_), .unset, .unset, .unset, .unset, .unset, .unset] [(.int u2_)])) _
      refine XS.istore X0.here hx rfl (hb hby at_63) rfl (l' := #[.val (.int p1), .val (.int p2), .val (.long q3), .second, .val (.int p4), .val (.int p5), .val (.int (Int32.ofNat N)), .val (.int u0_), .val (.int u1_), .val (.int u2_), .unset, .unset, .unset, .unset, .unset]) rfl ?_
      exact k)
  obtain ⟨u3_, hu3_⟩ : ∃ z : Int32, z = (if (3 : Int32) < (Int32.ofNat N) then (if (p2 &&& (8 : Int32)) = (0 : Int32) then (0 : Int32) else (1 : Int32)) else (0 : Int32)) := ⟨_, rfl⟩
  have ps12 : ∀ t, Steps p.tables e below (s₁.setTop (mkF m 83 #[.val (.int p1), .val (.int p2), .val (.long q3), .second, .val (.int p4), .val (.int p5), .val (.int (Int32.ofNat N)), .val (.int u0_), .val (.int u1_), .val (.int u2_), .unset, .unset, .unset, .unset, .unset] [(.int u3_)])) t → Steps p.tables e below (s₁.setTop (mkF m 65 #[.val (.int p1), .val (.int p2), .val (.long q3), .second, .val (.int p4), .val (.int p5), .val (.int (Int32.ofNat N)), .val (.int u0_), .val (.int u1_), .val (.int u2_), .unset, .unset, .unset, .unset, .unset] [])) t := by
    intro t k
    show Steps p.tables e below (s₁.setTop (mkF m 65 #[.val (.int p1), .val (.int p2), .val (.long q3), .second, .val (.int p4), .val (.int p5), .val (.int (Int32.ofNat N)), .val (.int u0_), .val (.int u1_), .val (.int u2_), .unset, .unset, .unset, .unset, .unset] [])) _
    refine XS.iload X0.here hx rfl (hb hby at_65) rfl ?_
    show Steps p.tables e below (s₁.setTop (mkF m 67 #[.val (.int p1), .val (.int p2), .val (.long q3), .second, .val (.int p4), .val (.int p5), .val (.int (Int32.ofNat N)), .val (.int u0_), .val (.int u1_), .val (.int u2_), .unset, .unset, .unset, .unset, .unset] [(.int (Int32.ofNat N))])) _
    refine XS.iconst X0.here hx rfl (hb hby at_67) ?_
    by_cases hm68_0 : (3 : Int32) < (Int32.ofNat N)
    ·
      show Steps p.tables e below (s₁.setTop (mkF m 68 #[.val (.int p1), .val (.int p2), .val (.long q3), .second, .val (.int p4), .val (.int p5), .val (.int (Int32.ofNat N)), .val (.int u0_), .val (.int u1_), .val (.int u2_), .unset, .unset, .unset, .unset, .unset] [(.int (3 : Int32)), (.int (Int32.ofNat N))])) _
      refine XS.icmpNo X0.here hx rfl (hb hby at_68) rfl (tlt hm68_0).2.2.2 ?_
      show Steps p.tables e below (s₁.setTop (mkF m 71 #[.val (.int p1), .val (.int p2), .val (.long q3), .second, .val (.int p4), .val (.int p5), .val (.int (Int32.ofNat N)), .val (.int u0_), .val (.int u1_), .val (.int u2_), .unset, .unset, .unset, .unset, .unset] [])) _
      refine XS.iloadN X0.here hx rfl (hb hby at_71) rfl ?_
      show Steps p.tables e below (s₁.setTop (mkF m 72 #[.val (.int p1), .val (.int p2), .val (.long q3), .second, .val (.int p4), .val (.int p5), .val (.int (Int32.ofNat N)), .val (.int u0_), .val (.int u1_), .val (.int u2_), .unset, .unset, .unset, .unset, .unset] [(.int p2)])) _
      refine XS.bipush X0.here hx rfl (hb hby at_72) ?_
      show Steps p.tables e below (s₁.setTop (mkF m 74 #[.val (.int p1), .val (.int p2), .val (.long q3), .second, .val (.int p4), .val (.int p5), .val (.int (Int32.ofNat N)), .val (.int u0_), .val (.int u1_), .val (.int u2_), .unset, .unset, .unset, .unset, .unset] [(.int (8 : Int32)), (.int p2)])) _
      refine XS.iand X0.here hx rfl (hb hby at_74) rfl ?_
      by_cases hm75_1 : (p2 &&& (8 : Int32)) = (0 : Int32)
      ·
        show Steps p.tables e below (s₁.setTop (mkF m 75 #[.val (.int p1), .val (.int p2), .val (.long q3), .second, .val (.int p4), .val (.int p5), .val (.int (Int32.ofNat N)), .val (.int u0_), .val (.int u1_), .val (.int u2_), .unset, .unset, .unset, .unset, .unset] [(.int (p2 &&& (8 : Int32)))])) _
        refine XS.ifYes X0.here hx rfl (pc0 := 75) (pc' := 82) rfl (hb hby at_75) rfl ((if0 _ _).trans (teq hm75_1).1) (by decide) (by decide) ?_
        show Steps p.tables e below (s₁.setTop (mkF m 82 #[.val (.int p1), .val (.int p2), .val (.long q3), .second, .val (.int p4), .val (.int p5), .val (.int (Int32.ofNat N)), .val (.int u0_), .val (.int u1_), .val (.int u2_), .unset, .unset, .unset, .unset, .unset] [])) _
        refine XS.iconst X0.here hx rfl (hb hby at_82) ?_
        have qu3_ : u3_ = (0 : Int32) := by rw [hu3_]; simp only [hm68_0, hm75_1, if_true, if_false, reduceIte]
        rw [qu3_] at k
        exact k
      ·
        show Steps p.tables e below (s₁.setTop (mkF m 75 #[.val (.int p1), .val (.int p2), .val (.long q3), .second, .val (.int p4), .val (.int p5), .val (.int (Int32.ofNat N)), .val (.int u0_), .val (.int u1_), .val (.int u2_), .unset, .unset, .unset, .unset, .unset] [(.int (p2 &&& (8 : Int32)))])) _
        refine XS.ifNo X0.here hx rfl (hb hby at_75) rfl ((if0 _ _).trans (feq hm75_1).1) ?_
        show Steps p.tables e below (s₁.setTop (mkF m 78 #[.val (.int p1), .val (.int p2), .val (.long q3), .second, .val (.int p4), .val (.int p5), .val (.int (Int32.ofNat N)), .val (.int u0_), .val (.int u1_), .val (.int u2_), .unset, .unset, .unset, .unset, .unset] [])) _
        refine XS.iconst X0.here hx rfl (hb hby at_78) ?_
        show Steps p.tables e below (s₁.setTop (mkF m 79 #[.val (.int p1), .val (.int p2), .val (.long q3), .second, .val (.int p4), .val (.int p5), .val (.int (Int32.ofNat N)), .val (.int u0_), .val (.int u1_), .val (.int u2_), .unset, .unset, .unset, .unset, .unset] [(.int (1 : Int32))])) _
        refine XS.goto X0.here hx rfl (pc0 := 79) (pc' := 83) rfl (hb hby at_79) (by decide) (by decide) ?_
        have qu3_ : u3_ = (1 : Int32) := by rw [hu3_]; simp only [hm68_0, hm75_1, if_true, if_false, reduceIte]
        rw [qu3_] at k
        exact k
    ·
      show Steps p.tables e below (s₁.setTop (mkF m 68 #[.val (.int p1), .val (.int p2), .val (.long q3), .second, .val (.int p4), .val (.int p5), .val (.int (Int32.ofNat N)), .val (.int u0_), .val (.int u1_), .val (.int u2_), .unset, .unset, .unset, .unset, .unset] [(.int (3 : Int32)), (.int (Int32.ofNat N))])) _
      refine XS.icmpYes X0.here hx rfl (pc0 := 68) (pc' := 82) rfl (hb hby at_68) rfl (flt hm68_0).2.2.2 (by decide) (by decide) ?_
      show Steps p.tables e below (s₁.setTop (mkF m 82 #[.val (.int p1), .val (.int p2), .val (.long q3), .second, .val (.int p4), .val (.int p5), .val (.int (Int32.ofNat N)), .val (.int u0_), .val (.int u1_), .val (.int u2_), .unset, .unset, .unset, .unset, .unset] [])) _
      refine XS.iconst X0.here hx rfl (hb hby at_82) ?_
      have qu3_ : u3_ = (0 : Int32) := by rw [hu3_]; simp only [hm68_0, if_true, if_false, reduceIte]
      rw [qu3_] at k
      exact k
  have J13 : ∀ t, Steps p.tables e below (s₁.setTop (mkF m 83 #[.val (.int p1), .val (.int p2), .val (.long q3), .second, .val (.int p4), .val (.int p5), .val (.int (Int32.ofNat N)), .val (.int u0_), .val (.int u1_), .val (.int u2_), .unset, .unset, .unset, .unset, .unset] [(.int u3_)])) t → Steps p.tables e below (s₁.setTop (entryFrame m #[(.int p1), (.int p2), (.long q3), (.int p4), (.int p5)] maxLocals)) t := fun t k => J11 t (ps12 t k)
  have J14 : ∀ t, Steps p.tables e below (s₁.setTop (mkF m 85 #[.val (.int p1), .val (.int p2), .val (.long q3), .second, .val (.int p4), .val (.int p5), .val (.int (Int32.ofNat N)), .val (.int u0_), .val (.int u1_), .val (.int u2_), .val (.int u3_), .unset, .unset, .unset, .unset] [])) t → Steps p.tables e below (s₁.setTop (entryFrame m #[(.int p1), (.int p2), (.long q3), (.int p4), (.int p5)] maxLocals)) t := fun t k => J13 t (by
      show Steps p.tables e below (s₁.setTop (mkF m 83 #[.val (.int p1), .val (.int p2), .val (.long q3), .second, .val (.int p4), .val (.int p5), .val (.int (Int32.ofNat N)), .val (.int u0_), .val (.int u1_), .val (.int u2_), .unset, .unset, .unset, .unset, .unset] [(.int u3_)])) _
      refine XS.istore X0.here hx rfl (hb hby at_83) rfl (l' := #[.val (.int p1), .val (.int p2), .val (.long q3), .second, .val (.int p4), .val (.int p5), .val (.int (Int32.ofNat N)), .val (.int u0_), .val (.int u1_), .val (.int u2_), .val (.int u3_), .unset, .unset, .unset, .unset]) rfl ?_
      exact k)
  obtain ⟨u4_, hu4_⟩ : ∃ z : Int32, z = (if (4 : Int32) < (Int32.ofNat N) then (if (p2 &&& (16 : Int32)) = (0 : Int32) then (0 : Int32) else (1 : Int32)) else (0 : Int32)) := ⟨_, rfl⟩
  have ps15 : ∀ t, Steps p.tables e below (s₁.setTop (mkF m 103 #[.val (.int p1), .val (.int p2), .val (.long q3), .second, .val (.int p4), .val (.int p5), .val (.int (Int32.ofNat N)), .val (.int u0_), .val (.int u1_), .val (.int u2_), .val (.int u3_), .unset, .unset, .unset, .unset] [(.int u4_)])) t → Steps p.tables e below (s₁.setTop (mkF m 85 #[.val (.int p1), .val (.int p2), .val (.long q3), .second, .val (.int p4), .val (.int p5), .val (.int (Int32.ofNat N)), .val (.int u0_), .val (.int u1_), .val (.int u2_), .val (.int u3_), .unset, .unset, .unset, .unset] [])) t := by
    intro t k
    show Steps p.tables e below (s₁.setTop (mkF m 85 #[.val (.int p1), .val (.int p2), .val (.long q3), .second, .val (.int p4), .val (.int p5), .val (.int (Int32.ofNat N)), .val (.int u0_), .val (.int u1_), .val (.int u2_), .val (.int u3_), .unset, .unset, .unset, .unset] [])) _
    refine XS.iload X0.here hx rfl (hb hby at_85) rfl ?_
    show Steps p.tables e below (s₁.setTop (mkF m 87 #[.val (.int p1), .val (.int p2), .val (.long q3), .second, .val (.int p4), .val (.int p5), .val (.int (Int32.ofNat N)), .val (.int u0_), .val (.int u1_), .val (.int u2_), .val (.int u3_), .unset, .unset, .unset, .unset] [(.int (Int32.ofNat N))])) _
    refine XS.iconst X0.here hx rfl (hb hby at_87) ?_
    by_cases hm88_0 : (4 : Int32) < (Int32.ofNat N)
    ·
      show Steps p.tables e below (s₁.setTop (mkF m 88 #[.val (.int p1), .val (.int p2), .val (.long q3), .second, .val (.int p4), .val (.int p5), .val (.int (Int32.ofNat N)), .val (.int u0_), .val (.int u1_), .val (.int u2_), .val (.int u3_), .unset, .unset, .unset, .unset] [(.int (4 : Int32)), (.int (Int32.ofNat N))])) _
      refine XS.icmpNo X0.here hx rfl (hb hby at_88) rfl (tlt hm88_0).2.2.2 ?_
      show Steps p.tables e below (s₁.setTop (mkF m 91 #[.val (.int p1), .val (.int p2), .val (.long q3), .second, .val (.int p4), .val (.int p5), .val (.int (Int32.ofNat N)), .val (.int u0_), .val (.int u1_), .val (.int u2_), .val (.int u3_), .unset, .unset, .unset, .unset] [])) _
      refine XS.iloadN X0.here hx rfl (hb hby at_91) rfl ?_
      show Steps p.tables e below (s₁.setTop (mkF m 92 #[.val (.int p1), .val (.int p2), .val (.long q3), .second, .val (.int p4), .val (.int p5), .val (.int (Int32.ofNat N)), .val (.int u0_), .val (.int u1_), .val (.int u2_), .val (.int u3_), .unset, .unset, .unset, .unset] [(.int p2)])) _
      refine XS.bipush X0.here hx rfl (hb hby at_92) ?_
      show Steps p.tables e below (s₁.setTop (mkF m 94 #[.val (.int p1), .val (.int p2), .val (.long q3), .second, .val (.int p4), .val (.int p5), .val (.int (Int32.ofNat N)), .val (.int u0_), .val (.int u1_), .val (.int u2_), .val (.int u3_), .unset, .unset, .unset, .unset] [(.int (16 : Int32)), (.int p2)])) _
      refine XS.iand X0.here hx rfl (hb hby at_94) rfl ?_
      by_cases hm95_1 : (p2 &&& (16 : Int32)) = (0 : Int32)
      ·
        show Steps p.tables e below (s₁.setTop (mkF m 95 #[.val (.int p1), .val (.int p2), .val (.long q3), .second, .val (.int p4), .val (.int p5), .val (.int (Int32.ofNat N)), .val (.int u0_), .val (.int u1_), .val (.int u2_), .val (.int u3_), .unset, .unset, .unset, .unset] [(.int (p2 &&& (16 : Int32)))])) _
        refine XS.ifYes X0.here hx rfl (pc0 := 95) (pc' := 102) rfl (hb hby at_95) rfl ((if0 _ _).trans (teq hm95_1).1) (by decide) (by decide) ?_
        show Steps p.tables e below (s₁.setTop (mkF m 102 #[.val (.int p1), .val (.int p2), .val (.long q3), .second, .val (.int p4), .val (.int p5), .val (.int (Int32.ofNat N)), .val (.int u0_), .val (.int u1_), .val (.int u2_), .val (.int u3_), .unset, .unset, .unset, .unset] [])) _
        refine XS.iconst X0.here hx rfl (hb hby at_102) ?_
        have qu4_ : u4_ = (0 : Int32) := by rw [hu4_]; simp only [hm88_0, hm95_1, if_true, if_false, reduceIte]
        rw [qu4_] at k
        exact k
      ·
        show Steps p.tables e below (s₁.setTop (mkF m 95 #[.val (.int p1), .val (.int p2), .val (.long q3), .second, .val (.int p4), .val (.int p5), .val (.int (Int32.ofNat N)), .val (.int u0_), .val (.int u1_), .val (.int u2_), .val (.int u3_), .unset, .unset, .unset, .unset] [(.int (p2 &&& (16 : Int32)))])) _
        refine XS.ifNo X0.here hx rfl (hb hby at_95) rfl ((if0 _ _).trans (feq hm95_1).1) ?_
        show Steps p.tables e below (s₁.setTop (mkF m 98 #[.val (.int p1), .val (.int p2), .val (.long q3), .second, .val (.int p4), .val (.int p5), .val (.int (Int32.ofNat N)), .val (.int u0_), .val (.int u1_), .val (.int u2_), .val (.int u3_), .unset, .unset, .unset, .unset] [])) _
        refine XS.iconst X0.here hx rfl (hb hby at_98) ?_
        show Steps p.tables e below (s₁.setTop (mkF m 99 #[.val (.int p1), .val (.int p2), .val (.long q3), .second, .val (.int p4), .val (.int p5), .val (.int (Int32.ofNat N)), .val (.int u0_), .val (.int u1_), .val (.int u2_), .val (.int u3_), .unset, .unset, .unset, .unset] [(.int (1 : Int32))])) _
        refine XS.goto X0.here hx rfl (pc0 := 99) (pc' := 103) rfl (hb hby at_99) (by decide) (by decide) ?_
        have qu4_ : u4_ = (1 : Int32) := by rw [hu4_]; simp only [hm88_0, hm95_1, if_true, if_false, reduceIte]
        rw [qu4_] at k
        exact k
    ·
      show Steps p.tables e below (s₁.setTop (mkF m 88 #[.val (.int p1), .val (.int p2), .val (.long q3), .second, .val (.int p4), .val (.int p5), .val (.int (Int32.ofNat N)), .val (.int u0_), .val (.int u1_), .val (.int u2_), .val (.int u3_), .unset, .unset, .unset, .unset] [(.int (4 : Int32)), (.int (Int32.ofNat N))])) _
      refine XS.icmpYes X0.here hx rfl (pc0 := 88) (pc' := 102) rfl (hb hby at_88) rfl (flt hm88_0).2.2.2 (by decide) (by decide) ?_
      show Steps p.tables e below (s₁.setTop (mkF m 102 #[.val (.int p1), .val (.int p2), .val (.long q3), .second, .val (.int p4), .val (.int p5), .val (.int (Int32.ofNat N)), .val (.int u0_), .val (.int u1_), .val (.int u2_), .val (.int u3_), .unset, .unset, .unset, .unset] [])) _
      refine XS.iconst X0.here hx rfl (hb hby at_102) ?_
      have qu4_ : u4_ = (0 : Int32) := by rw [hu4_]; simp only [hm88_0, if_true, if_false, reduceIte]
      rw [qu4_] at k
      exact k
  have J16 : ∀ t, Steps p.tables e below (s₁.setTop (mkF m 103 #[.val (.int p1), .val (.int p2), .val (.long q3), .second, .val (.int p4), .val (.int p5), .val (.int (Int32.ofNat N)), .val (.int u0_), .val (.int u1_), .val (.int u2_), .val (.int u3_), .unset, .unset, .unset, .unset] [(.int u4_)])) t → Steps p.tables e below (s₁.setTop (entryFrame m #[(.int p1), (.int p2), (.long q3), (.int p4), (.int p5)] maxLocals)) t := fun t k => J14 t (ps15 t k)
  have J17 : ∀ t, Steps p.tables e below (s₁.setTop (mkF m 107 #[.val (.int p1), .val (.int p2), .val (.long q3), .second, .val (.int p4), .val (.int p5), .val (.int (Int32.ofNat N)), .val (.int u0_), .val (.int u1_), .val (.int u2_), .val (.int u3_), .val (.int u4_), .unset, .unset, .unset] [(.int (Int32.ofNat N))])) t → Steps p.tables e below (s₁.setTop (entryFrame m #[(.int p1), (.int p2), (.long q3), (.int p4), (.int p5)] maxLocals)) t := fun t k => J16 t (by
      show Steps p.tables e below (s₁.setTop (mkF m 103 #[.val (.int p1), .val (.int p2), .val (.long q3), .second, .val (.int p4), .val (.int p5), .val (.int (Int32.ofNat N)), .val (.int u0_), .val (.int u1_), .val (.int u2_), .val (.int u3_), .unset, .unset, .unset, .unset] [(.int u4_)])) _
      refine XS.istore X0.here hx rfl (hb hby at_103) rfl (l' := #[.val (.int p1), .val (.int p2), .val (.long q3), .second, .val (.int p4), .val (.int p5), .val (.int (Int32.ofNat N)), .val (.int u0_), .val (.int u1_), .val (.int u2_), .val (.int u3_), .val (.int u4_), .unset, .unset, .unset]) rfl ?_
      show Steps p.tables e below (s₁.setTop (mkF m 105 #[.val (.int p1), .val (.int p2), .val (.long q3), .second, .val (.int p4), .val (.int p5), .val (.int (Int32.ofNat N)), .val (.int u0_), .val (.int u1_), .val (.int u2_), .val (.int u3_), .val (.int u4_), .unset, .unset, .unset] [])) _
      refine XS.iload X0.here hx rfl (hb hby at_105) rfl ?_
      exact k)
  obtain ⟨T18, h18, k18, X18, e18, E18, A18, st18⟩ := newP X0 hx hZ (hw _ (List.mem_of_getElem? (i := 1) rfl)) e0 (g := (mkF m 107 #[.val (.int p1), .val (.int p2), .val (.long q3), .second, .val (.int p4), .val (.int p5), .val (.int (Int32.ofNat N)), .val (.int u0_), .val (.int u1_), .val (.int u2_), .val (.int u3_), .val (.int u4_), .unset, .unset, .unset] [(.int (Int32.ofNat N))])) rfl (hb hby at_107) rfl (own_nn (by omega)) (cap := 5) (by rw [own_n32 (by omega)]; exact hN) (by decide) (by decide) (by decide)
  obtain ⟨b18, g18⟩ : ∃ z, z = h0.size := ⟨_, rfl⟩
  rw [← g18] at A18 st18
  obtain ⟨cl18, hcl18⟩ : ∃ z, z = newA k18 .long (Int32.ofNat N) := ⟨_, rfl⟩
  have Aw18 : Arr Z h18 b18 cl18 .long := by rw [hcl18]; exact A18
  have J19 : ∀ t, Steps p.tables e below (T18.setTop (mkF m 109 #[.val (.int p1), .val (.int p2), .val (.long q3), .second, .val (.int p4), .val (.int p5), .val (.int (Int32.ofNat N)), .val (.int u0_), .val (.int u1_), .val (.int u2_), .val (.int u3_), .val (.int u4_), .unset, .unset, .unset] [(.ref b18)])) t → Steps p.tables e below (s₁.setTop (entryFrame m #[(.int p1), (.int p2), (.long q3), (.int p4), (.int p5)] maxLocals)) t := fun t k => J17 t (st18 t k)
  have ge20 : n0 ≤ b18 := Nat.le_trans Z0 (Nat.le_of_eq g18.symm)
  have Z21 : n0 ≤ h18.size := Nat.le_trans Z0 E18.1
  have LA0 := own_LA0 hN hcl18
  have J22 : ∀ t, Steps p.tables e below (T18.setTop (mkF m 113 #[.val (.int p1), .val (.int p2), .val (.long q3), .second, .val (.int p4), .val (.int p5), .val (.int (Int32.ofNat N)), .val (.int u0_), .val (.int u1_), .val (.int u2_), .val (.int u3_), .val (.int u4_), .val (.ref b18), .unset, .unset] [(.int u0_)])) t → Steps p.tables e below (s₁.setTop (entryFrame m #[(.int p1), (.int p2), (.long q3), (.int p4), (.int p5)] maxLocals)) t := fun t k => J19 t (by
      show Steps p.tables e below (T18.setTop (mkF m 109 #[.val (.int p1), .val (.int p2), .val (.long q3), .second, .val (.int p4), .val (.int p5), .val (.int (Int32.ofNat N)), .val (.int u0_), .val (.int u1_), .val (.int u2_), .val (.int u3_), .val (.int u4_), .unset, .unset, .unset] [(.ref b18)])) _
      refine XS.astore X18.here hx rfl (hb hby at_109) rfl rfl (l' := #[.val (.int p1), .val (.int p2), .val (.long q3), .second, .val (.int p4), .val (.int p5), .val (.int (Int32.ofNat N)), .val (.int u0_), .val (.int u1_), .val (.int u2_), .val (.int u3_), .val (.int u4_), .val (.ref b18), .unset, .unset]) rfl ?_
      show Steps p.tables e below (T18.setTop (mkF m 111 #[.val (.int p1), .val (.int p2), .val (.long q3), .second, .val (.int p4), .val (.int p5), .val (.int (Int32.ofNat N)), .val (.int u0_), .val (.int u1_), .val (.int u2_), .val (.int u3_), .val (.int u4_), .val (.ref b18), .unset, .unset] [])) _
      refine XS.iload X18.here hx rfl (hb hby at_111) rfl ?_
      exact k)
  have mg34 : ∃ (T' : State) (h' : Heap) (locs' : List Loc) (cl' : Cell) (g' : Nat → Int64), Stand p l e room_1 s m #[(.int p1), (.int p2), (.long q3), (.int p4), (.int p5)] below meth c T' locs' 1 5 ∧ T'.heap = h' ∧ Fr n0 locs' ∧ n0 ≤ h'.size ∧ Keep h18 h' [b18] ∧ (Arr Z h' b18 cl' .long) ∧ (own_LA cl' N g') ∧ (own_St 0 u0_ (fun _ => (0 : Int64)) g') ∧ ∀ t, Steps p.tables e below (T'.setTop (mkF m 125 #[.val (.int p1), .val (.int p2), .val (.long q3), .second, .val (.int p4), .val (.int p5), .val (.int (Int32.ofNat N)), .val (.int u0_), .val (.int u1_), .val (.int u2_), .val (.int u3_), .val (.int u4_), .val (.ref b18), .unset, .unset] [])) t → Steps p.tables e below (T18.setTop (mkF m 113 #[.val (.int p1), .val (.int p2), .val (.long q3), .second, .val (.int p4), .val (.int p5), .val (.int (Int32.ofNat N)), .val (.int u0_), .val (.int u1_), .val (.int u2_), .val (.int u3_), .val (.int u4_), .val (.ref b18), .unset, .unset] [(.int u0_)])) t := by
    by_cases hq : u0_ = (0 : Int32)
    ·
      have J23 : ∀ t, Steps p.tables e below (T18.setTop (mkF m 125 #[.val (.int p1), .val (.int p2), .val (.long q3), .second, .val (.int p4), .val (.int p5), .val (.int (Int32.ofNat N)), .val (.int u0_), .val (.int u1_), .val (.int u2_), .val (.int u3_), .val (.int u4_), .val (.ref b18), .unset, .unset] [])) t → Steps p.tables e below (T18.setTop (mkF m 113 #[.val (.int p1), .val (.int p2), .val (.long q3), .second, .val (.int p4), .val (.int p5), .val (.int (Int32.ofNat N)), .val (.int u0_), .val (.int u1_), .val (.int u2_), .val (.int u3_), .val (.int u4_), .val (.ref b18), .unset, .unset] [(.int u0_)])) t := fun t k => id (by
          show Steps p.tables e below (T18.setTop (mkF m 113 #[.val (.int p1), .val (.int p2), .val (.long q3), .second, .val (.int p4), .val (.int p5), .val (.int (Int32.ofNat N)), .val (.int u0_), .val (.int u1_), .val (.int u2_), .val (.int u3_), .val (.int u4_), .val (.ref b18), .unset, .unset] [(.int u0_)])) _
          refine XS.ifYes X18.here hx rfl (pc0 := 113) (pc' := 125) rfl (hb hby at_113) rfl ((if0 _ _).trans (teq hq).1) (by decide) (by decide) ?_
          exact k)
      exact ⟨T18, h18, _, cl18, (fun _ => (0 : Int64)), X18, e18, N0, Z21, (Keep.refl h18 [b18]), Aw18, LA0, (own_St0 hq (fun _ _ => rfl)), J23⟩
    ·
      have J24 : ∀ t, Steps p.tables e below (T18.setTop (mkF m 116 #[.val (.int p1), .val (.int p2), .val (.long q3), .second, .val (.int p4), .val (.int p5), .val (.int (Int32.ofNat N)), .val (.int u0_), .val (.int u1_), .val (.int u2_), .val (.int u3_), .val (.int u4_), .val (.ref b18), .unset, .unset] [])) t → Steps p.tables e below (T18.setTop (mkF m 113 #[.val (.int p1), .val (.int p2), .val (.long q3), .second, .val (.int p4), .val (.int p5), .val (.int (Int32.ofNat N)), .val (.int u0_), .val (.int u1_), .val (.int u2_), .val (.int u3_), .val (.int u4_), .val (.ref b18), .unset, .unset] [(.int u0_)])) t := fun t k => id (by
          show Steps p.tables e below (T18.setTop (mkF m 113 #[.val (.int p1), .val (.int p2), .val (.long q3), .second, .val (.int p4), .val (.int p5), .val (.int (Int32.ofNat N)), .val (.int u0_), .val (.int u1_), .val (.int u2_), .val (.int u3_), .val (.int u4_), .val (.ref b18), .unset, .unset] [(.int u0_)])) _
          refine XS.ifNo X18.here hx rfl (hb hby at_113) rfl ((if0 _ _).trans (feq hq).1) ?_
          exact k)
      have hkN : 0 < N := own_uk hN (by decide) hu0_ hq
      have J25 : ∀ t, Steps p.tables e below (T18.setTop (mkF m 121 #[.val (.int p1), .val (.int p2), .val (.long q3), .second, .val (.int p4), .val (.int p5), .val (.int (Int32.ofNat N)), .val (.int u0_), .val (.int u1_), .val (.int u2_), .val (.int u3_), .val (.int u4_), .val (.ref b18), .unset, .unset] [(.int (0 : Int32)), (.long q3), (.int (0 : Int32)), (.ref b18)])) t → Steps p.tables e below (T18.setTop (mkF m 113 #[.val (.int p1), .val (.int p2), .val (.long q3), .second, .val (.int p4), .val (.int p5), .val (.int (Int32.ofNat N)), .val (.int u0_), .val (.int u1_), .val (.int u2_), .val (.int u3_), .val (.int u4_), .val (.ref b18), .unset, .unset] [(.int u0_)])) t := fun t k => J24 t (by
          show Steps p.tables e below (T18.setTop (mkF m 116 #[.val (.int p1), .val (.int p2), .val (.long q3), .second, .val (.int p4), .val (.int p5), .val (.int (Int32.ofNat N)), .val (.int u0_), .val (.int u1_), .val (.int u2_), .val (.int u3_), .val (.int u4_), .val (.ref b18), .unset, .unset] [])) _
          refine XS.aload X18.here hx rfl (hb hby at_116) rfl rfl ?_
          show Steps p.tables e below (T18.setTop (mkF m 118 #[.val (.int p1), .val (.int p2), .val (.long q3), .second, .val (.int p4), .val (.int p5), .val (.int (Int32.ofNat N)), .val (.int u0_), .val (.int u1_), .val (.int u2_), .val (.int u3_), .val (.int u4_), .val (.ref b18), .unset, .unset] [(.ref b18)])) _
          refine XS.iconst X18.here hx rfl (hb hby at_118) ?_
          show Steps p.tables e below (T18.setTop (mkF m 119 #[.val (.int p1), .val (.int p2), .val (.long q3), .second, .val (.int p4), .val (.int p5), .val (.int (Int32.ofNat N)), .val (.int u0_), .val (.int u1_), .val (.int u2_), .val (.int u3_), .val (.int u4_), .val (.ref b18), .unset, .unset] [(.int (0 : Int32)), (.ref b18)])) _
          refine XS.lloadN X18.here hx rfl (hb hby at_119) rfl ?_
          show Steps p.tables e below (T18.setTop (mkF m 120 #[.val (.int p1), .val (.int p2), .val (.long q3), .second, .val (.int p4), .val (.int p5), .val (.int (Int32.ofNat N)), .val (.int u0_), .val (.int u1_), .val (.int u2_), .val (.int u3_), .val (.int u4_), .val (.ref b18), .unset, .unset] [(.long q3), (.int (0 : Int32)), (.ref b18)])) _
          refine XS.iconst X18.here hx rfl (hb hby at_120) ?_
          exact k)
      obtain ⟨_, _, ⟨T26, L26, k26, n26⟩, -, X26, ⟨Lc26, hQ26, l26, y26, z26⟩, st26⟩ := Jvm.LawKit.callS X18 hx (y := (⟨"com/example/quantiscope/quantiscope/threshold/BinsFirstPinLaw", "val", "(JI)J"⟩ : MethodName)) hown (mvT hZ (hw _ (List.mem_of_getElem? (i := 6) rfl))) (mvT hZ (hw _ (List.mem_of_getElem? (i := 7) rfl))) (mvT hZ (hw _ (List.mem_of_getElem? (i := 8) rfl))) (mvT hZ (hw _ (List.mem_of_getElem? (i := 9) rfl))) (by decide) (backOf (W := 2) (rm2 l Z a0 hw [] q3 (0 : Int32) h18 n0 Z21 ) hZ (hw _ (List.mem_of_getElem? (i := 9) rfl)) (hw _ (List.mem_of_getElem? (i := 8) rfl)) (by decide) (by decide)) (g := (mkF m 121 #[.val (.int p1), .val (.int p2), .val (.long q3), .second, .val (.int p4), .val (.int p5), .val (.int (Int32.ofNat N)), .val (.int u0_), .val (.int u1_), .val (.int u2_), .val (.int u3_), .val (.int u4_), .val (.ref b18), .unset, .unset] [(.int (0 : Int32)), (.long q3), (.int (0 : Int32)), (.ref b18)])) rfl (by rw [hml]; rfl) (argsL := [(.long q3), (.int (0 : Int32))]) (rest := [(.int (0 : Int32)), (.ref b18)]) (lenOf pd_0 rfl) rfl (by show 2 * 0 + _ ≤ _; exact Nat.le_of_eq rfl) (hb hby at_121) (fun _ _ => ⟨rfl, e18, (by decide : 1 + 0 ≤ _), (by decide : 5 + 0 ≤ _)⟩)
      dsimp only [Pt.U, Pt.locs, Pt.cells, Pt.slots] at X26 l26 y26 z26 st26 hQ26
      subst l26 y26 z26
      obtain ⟨r_26, rfl, Nq26, e26, p26_1⟩ := hQ26
      have N27 := Fr.app N0 Nq26
      have J28 : ∀ t, Steps p.tables e below (T26.setTop (mkF m 124 #[.val (.int p1), .val (.int p2), .val (.long q3), .second, .val (.int p4), .val (.int p5), .val (.int (Int32.ofNat N)), .val (.int u0_), .val (.int u1_), .val (.int u2_), .val (.int u3_), .val (.int u4_), .val (.ref b18), .unset, .unset] [(.long r_26), (.int (0 : Int32)), (.ref b18)])) t → Steps p.tables e below (T18.setTop (mkF m 113 #[.val (.int p1), .val (.int p2), .val (.long q3), .second, .val (.int p4), .val (.int p5), .val (.int (Int32.ofNat N)), .val (.int u0_), .val (.int u1_), .val (.int u2_), .val (.int u3_), .val (.int u4_), .val (.ref b18), .unset, .unset] [(.int u0_)])) t := fun t k => J25 t (st26 t k)
      obtain ⟨T29, h29, X29, e29, W29, st29⟩ := stJ X26 hx hZ e26 Aw18 (j := (0 : Int32)) (own_inb LA0 (by decide) (by decide) hkN) (g := (mkF m 124 #[.val (.int p1), .val (.int p2), .val (.long q3), .second, .val (.int p4), .val (.int p5), .val (.int (Int32.ofNat N)), .val (.int u0_), .val (.int u1_), .val (.int u2_), .val (.int u3_), .val (.int u4_), .val (.ref b18), .unset, .unset] [(.long r_26), (.int (0 : Int32)), (.ref b18)])) rfl rfl (hb hby at_124)
      have J30 : ∀ t, Steps p.tables e below (T29.setTop (mkF m 125 #[.val (.int p1), .val (.int p2), .val (.long q3), .second, .val (.int p4), .val (.int p5), .val (.int (Int32.ofNat N)), .val (.int u0_), .val (.int u1_), .val (.int u2_), .val (.int u3_), .val (.int u4_), .val (.ref b18), .unset, .unset] [])) t → Steps p.tables e below (T18.setTop (mkF m 113 #[.val (.int p1), .val (.int p2), .val (.long q3), .second, .val (.int p4), .val (.int p5), .val (.int (Int32.ofNat N)), .val (.int u0_), .val (.int u1_), .val (.int u2_), .val (.int u3_), .val (.int u4_), .val (.ref b18), .unset, .unset] [(.int u0_)])) t := fun t k => J28 t (st29 t k)
      have Z31 : n0 ≤ h29.size := Nat.le_trans Z21 (Keep.of_wr W29).1
      have KK32 : Keep h18 h29 [b18] := (Keep.refl h18 [b18]).wr W29 (Or.inl (List.mem_of_getElem? (i := 0) rfl))
      have N33 := Fr.snoc X29 N27 ge20
      obtain ⟨cl29, hcl29⟩ : ∃ z, z = cl18.setSlot ((0 : Int32)).toNatClampNeg (.long r_26) := ⟨_, rfl⟩
      have Aw29 : Arr Z h29 b18 cl29 .long := by rw [hcl29]; exact Aw18.same W29
      exact ⟨T29, h29, _, cl29, (fun j => if j = 0 then r_26 else (fun _ => (0 : Int64)) j), X29, e29, N33, Z31, KK32, Aw29, (own_LAset LA0 (by decide) hkN hcl29), (own_St1 p26_1 hq (fun _ _ => rfl)), J30⟩
  obtain ⟨T35, h35, lo35, cl'_35, g'_35, X35, e35, N35, Z35, K35, p35_1, p35_2, p35_3, st35⟩ := mg34
  have J36 : ∀ t, Steps p.tables e below (T35.setTop (mkF m 125 #[.val (.int p1), .val (.int p2), .val (.long q3), .second, .val (.int p4), .val (.int p5), .val (.int (Int32.ofNat N)), .val (.int u0_), .val (.int u1_), .val (.int u2_), .val (.int u3_), .val (.int u4_), .val (.ref b18), .unset, .unset] [])) t → Steps p.tables e below (s₁.setTop (entryFrame m #[(.int p1), (.int p2), (.long q3), (.int p4), (.int p5)] maxLocals)) t := fun t k => J22 t (st35 t k)
  have Z37 : n0 ≤ h35.size := Nat.le_trans Z21 K35.1
  have J38 : ∀ t, Steps p.tables e below (T35.setTop (mkF m 127 #[.val (.int p1), .val (.int p2), .val (.long q3), .second, .val (.int p4), .val (.int p5), .val (.int (Int32.ofNat N)), .val (.int u0_), .val (.int u1_), .val (.int u2_), .val (.int u3_), .val (.int u4_), .val (.ref b18), .unset, .unset] [(.int u1_)])) t → Steps p.tables e below (s₁.setTop (entryFrame m #[(.int p1), (.int p2), (.long q3), (.int p4), (.int p5)] maxLocals)) t := fun t k => J36 t (by
      show Steps p.tables e below (T35.setTop (mkF m 125 #[.val (.int p1), .val (.int p2), .val (.long q3), .second, .val (.int p4), .val (.int p5), .val (.int (Int32.ofNat N)), .val (.int u0_), .val (.int u1_), .val (.int u2_), .val (.int u3_), .val (.int u4_), .val (.ref b18), .unset, .unset] [])) _
      refine XS.iload X35.here hx rfl (hb hby at_125) rfl ?_
      exact k)
  have mg50 : ∃ (T' : State) (h' : Heap) (locs' : List Loc) (cl' : Cell) (g' : Nat → Int64), Stand p l e room_1 s m #[(.int p1), (.int p2), (.long q3), (.int p4), (.int p5)] below meth c T' locs' 1 5 ∧ T'.heap = h' ∧ Fr n0 locs' ∧ n0 ≤ h'.size ∧ Keep h35 h' [b18] ∧ (Arr Z h' b18 cl' .long) ∧ (own_LA cl' N g') ∧ (own_St 1 u1_ g'_35 g') ∧ ∀ t, Steps p.tables e below (T'.setTop (mkF m 139 #[.val (.int p1), .val (.int p2), .val (.long q3), .second, .val (.int p4), .val (.int p5), .val (.int (Int32.ofNat N)), .val (.int u0_), .val (.int u1_), .val (.int u2_), .val (.int u3_), .val (.int u4_), .val (.ref b18), .unset, .unset] [])) t → Steps p.tables e below (T35.setTop (mkF m 127 #[.val (.int p1), .val (.int p2), .val (.long q3), .second, .val (.int p4), .val (.int p5), .val (.int (Int32.ofNat N)), .val (.int u0_), .val (.int u1_), .val (.int u2_), .val (.int u3_), .val (.int u4_), .val (.ref b18), .unset, .unset] [(.int u1_)])) t := by
    by_cases hq : u1_ = (0 : Int32)
    ·
      have J39 : ∀ t, Steps p.tables e below (T35.setTop (mkF m 139 #[.val (.int p1), .val (.int p2), .val (.long q3), .second, .val (.int p4), .val (.int p5), .val (.int (Int32.ofNat N)), .val (.int u0_), .val (.int u1_), .val (.int u2_), .val (.int u3_), .val (.int u4_), .val (.ref b18), .unset, .unset] [])) t → Steps p.tables e below (T35.setTop (mkF m 127 #[.val (.int p1), .val (.int p2), .val (.long q3), .second, .val (.int p4), .val (.int p5), .val (.int (Int32.ofNat N)), .val (.int u0_), .val (.int u1_), .val (.int u2_), .val (.int u3_), .val (.int u4_), .val (.ref b18), .unset, .unset] [(.int u1_)])) t := fun t k => id (by
          show Steps p.tables e below (T35.setTop (mkF m 127 #[.val (.int p1), .val (.int p2), .val (.long q3), .second, .val (.int p4), .val (.int p5), .val (.int (Int32.ofNat N)), .val (.int u0_), .val (.int u1_), .val (.int u2_), .val (.int u3_), .val (.int u4_), .val (.ref b18), .unset, .unset] [(.int u1_)])) _
          refine XS.ifYes X35.here hx rfl (pc0 := 127) (pc' := 139) rfl (hb hby at_127) rfl ((if0 _ _).trans (teq hq).1) (by decide) (by decide) ?_
          exact k)
      exact ⟨T35, h35, _, cl'_35, g'_35, X35, e35, N35, Z37, (Keep.refl h35 [b18]), p35_1, p35_2, (own_St0 hq (own_Stn p35_3)), J39⟩
    ·
      have J40 : ∀ t, Steps p.tables e below (T35.setTop (mkF m 130 #[.val (.int p1), .val (.int p2), .val (.long q3), .second, .val (.int p4), .val (.int p5), .val (.int (Int32.ofNat N)), .val (.int u0_), .val (.int u1_), .val (.int u2_), .val (.int u3_), .val (.int u4_), .val (.ref b18), .unset, .unset] [])) t → Steps p.tables e below (T35.setTop (mkF m 127 #[.val (.int p1), .val (.int p2), .val (.long q3), .second, .val (.int p4), .val (.int p5), .val (.int (Int32.ofNat N)), .val (.int u0_), .val (.int u1_), .val (.int u2_), .val (.int u3_), .val (.int u4_), .val (.ref b18), .unset, .unset] [(.int u1_)])) t := fun t k => id (by
          show Steps p.tables e below (T35.setTop (mkF m 127 #[.val (.int p1), .val (.int p2), .val (.long q3), .second, .val (.int p4), .val (.int p5), .val (.int (Int32.ofNat N)), .val (.int u0_), .val (.int u1_), .val (.int u2_), .val (.int u3_), .val (.int u4_), .val (.ref b18), .unset, .unset] [(.int u1_)])) _
          refine XS.ifNo X35.here hx rfl (hb hby at_127) rfl ((if0 _ _).trans (feq hq).1) ?_
          exact k)
      have hkN : 1 < N := own_uk hN (by decide) hu1_ hq
      have J41 : ∀ t, Steps p.tables e below (T35.setTop (mkF m 135 #[.val (.int p1), .val (.int p2), .val (.long q3), .second, .val (.int p4), .val (.int p5), .val (.int (Int32.ofNat N)), .val (.int u0_), .val (.int u1_), .val (.int u2_), .val (.int u3_), .val (.int u4_), .val (.ref b18), .unset, .unset] [(.int (1 : Int32)), (.long q3), (.int (1 : Int32)), (.ref b18)])) t → Steps p.tables e below (T35.setTop (mkF m 127 #[.val (.int p1), .val (.int p2), .val (.long q3), .second, .val (.int p4), .val (.int p5), .val (.int (Int32.ofNat N)), .val (.int u0_), .val (.int u1_), .val (.int u2_), .val (.int u3_), .val (.int u4_), .val (.ref b18), .unset, .unset] [(.int u1_)])) t := fun t k => J40 t (by
          show Steps p.tables e below (T35.setTop (mkF m 130 #[.val (.int p1), .val (.int p2), .val (.long q3), .second, .val (.int p4), .val (.int p5), .val (.int (Int32.ofNat N)), .val (.int u0_), .val (.int u1_), .val (.int u2_), .val (.int u3_), .val (.int u4_), .val (.ref b18), .unset, .unset] [])) _
          refine XS.aload X35.here hx rfl (hb hby at_130) rfl rfl ?_
          show Steps p.tables e below (T35.setTop (mkF m 132 #[.val (.int p1), .val (.int p2), .val (.long q3), .second, .val (.int p4), .val (.int p5), .val (.int (Int32.ofNat N)), .val (.int u0_), .val (.int u1_), .val (.int u2_), .val (.int u3_), .val (.int u4_), .val (.ref b18), .unset, .unset] [(.ref b18)])) _
          refine XS.iconst X35.here hx rfl (hb hby at_132) ?_
          show Steps p.tables e below (T35.setTop (mkF m 133 #[.val (.int p1), .val (.int p2), .val (.long q3), .second, .val (.int p4), .val (.int p5), .val (.int (Int32.ofNat N)), .val (.int u0_), .val (.int u1_), .val (.int u2_), .val (.int u3_), .val (.int u4_), .val (.ref b18), .unset, .unset] [(.int (1 : Int32)), (.ref b18)])) _
          refine XS.lloadN X35.here hx rfl (hb hby at_133) rfl ?_
          show Steps p.tables e below (T35.setTop (mkF m 134 #[.val (.int p1), .val (.int p2), .val (.long q3), .second, .val (.int p4), .val (.int p5), .val (.int (Int32.ofNat N)), .val (.int u0_), .val (.int u1_), .val (.int u2_), .val (.int u3_), .val (.int u4_), .val (.ref b18), .unset, .unset] [(.long q3), (.int (1 : Int32)), (.ref b18)])) _
          refine XS.iconst X35.here hx rfl (hb hby at_134) ?_
          exact k)
      obtain ⟨_, _, ⟨T42, L42, k42, n42⟩, -, X42, ⟨Lc42, hQ42, l42, y42, z42⟩, st42⟩ := Jvm.LawKit.callS X35 hx (y := (⟨"com/example/quantiscope/quantiscope/threshold/BinsFirstPinLaw", "val", "(JI)J"⟩ : MethodName)) hown (mvT hZ (hw _ (List.mem_of_getElem? (i := 6) rfl))) (mvT hZ (hw _ (List.mem_of_getElem? (i := 7) rfl))) (mvT hZ (hw _ (List.mem_of_getElem? (i := 8) rfl))) (mvT hZ (hw _ (List.mem_of_getElem? (i := 9) rfl))) (by decide) (backOf (W := 2) (rm2 l Z a0 hw [] q3 (1 : Int32) h35 n0 Z37 ) hZ (hw _ (List.mem_of_getElem? (i := 9) rfl)) (hw _ (List.mem_of_getElem? (i := 8) rfl)) (by decide) (by decide)) (g := (mkF m 135 #[.val (.int p1), .val (.int p2), .val (.long q3), .second, .val (.int p4), .val (.int p5), .val (.int (Int32.ofNat N)), .val (.int u0_), .val (.int u1_), .val (.int u2_), .val (.int u3_), .val (.int u4_), .val (.ref b18), .unset, .unset] [(.int (1 : Int32)), (.long q3), (.int (1 : Int32)), (.ref b18)])) rfl (by rw [hml]; rfl) (argsL := [(.long q3), (.int (1 : Int32))]) (rest := [(.int (1 : Int32)), (.ref b18)]) (lenOf pd_0 rfl) rfl (by show 2 * 0 + _ ≤ _; exact Nat.le_of_eq rfl) (hb hby at_135) (fun _ _ => ⟨rfl, e35, (by decide : 1 + 0 ≤ _), (by decide : 5 + 0 ≤ _)⟩)
      dsimp only [Pt.U, Pt.locs, Pt.cells, Pt.slots] at X42 l42 y42 z42 st42 hQ42
      subst l42 y42 z42
      obtain ⟨r_42, rfl, Nq42, e42, p42_1⟩ := hQ42
      have N43 := Fr.app N35 Nq42
      have J44 : ∀ t, Steps p.tables e below (T42.setTop (mkF m 138 #[.val (.int p1), .val (.int p2), .val (.long q3), .second, .val (.int p4), .val (.int p5), .val (.int (Int32.ofNat N)), .val (.int u0_), .val (.int u1_), .val (.int u2_), .val (.int u3_), .val (.int u4_), .val (.ref b18), .unset, .unset] [(.long r_42), (.int (1 : Int32)), (.ref b18)])) t → Steps p.tables e below (T35.setTop (mkF m 127 #[.val (.int p1), .val (.int p2), .val (.long q3), .second, .val (.int p4), .val (.int p5), .val (.int (Int32.ofNat N)), .val (.int u0_), .val (.int u1_), .val (.int u2_), .val (.int u3_), .val (.int u4_), .val (.ref b18), .unset, .unset] [(.int u1_)])) t := fun t k => J41 t (st42 t k)
      obtain ⟨T45, h45, X45, e45, W45, st45⟩ := stJ X42 hx hZ e42 p35_1 (j := (1 : Int32)) (own_inb p35_2 (by decide) (by decide) hkN) (g := (mkF m 138 #[.val (.int p1), .val (.int p2), .val (.long q3), .second, .val (.int p4), .val (.int p5), .val (.int (Int32.ofNat N)), .val (.int u0_), .val (.int u1_), .val (.int u2_), .val (.int u3_), .val (.int u4_), .val (.ref b18), .unset, .unset] [(.long r_42), (.int (1 : Int32)), (.ref b18)])) rfl rfl (hb hby at_138)
      have J46 : ∀ t, Steps p.tables e below (T45.setTop (mkF m 139 #[.val (.int p1), .val (.int p2), .val (.long q3), .second, .val (.int p4), .val (.int p5), .val (.int (Int32.ofNat N)), .val (.int u0_), .val (.int u1_), .val (.int u2_), .val (.int u3_), .val (.int u4_), .val (.ref b18), .unset, .unset] [])) t → Steps p.tables e below (T35.setTop (mkF m 127 #[.val (.int p1), .val (.int p2), .val (.long q3), .second, .val (.int p4), .val (.int p5), .val (.int (Int32.ofNat N)), .val (.int u0_), .val (.int u1_), .val (.int u2_), .val (.int u3_), .val (.int u4_), .val (.ref b18), .unset, .unset] [(.int u1_)])) t := fun t k => J44 t (st45 t k)
      have Z47 : n0 ≤ h45.size := Nat.le_trans Z37 (Keep.of_wr W45).1
      have KK48 : Keep h35 h45 [b18] := (Keep.refl h35 [b18]).wr W45 (Or.inl (List.mem_of_getElem? (i := 0) rfl))
      have N49 := Fr.snoc X45 N43 ge20
      obtain ⟨cl45, hcl45⟩ : ∃ z, z = cl'_35.setSlot ((1 : Int32)).toNatClampNeg (.long r_42) := ⟨_, rfl⟩
      have Aw45 : Arr Z h45 b18 cl45 .long := by rw [hcl45]; exact p35_1.same W45
      exact ⟨T45, h45, _, cl45, (fun j => if j = 1 then r_42 else g'_35 j), X45, e45, N49, Z47, KK48, Aw45, (own_LAset p35_2 (by decide) hkN hcl45), (own_St1 p42_1 hq (own_Stn p35_3)), J46⟩
  obtain ⟨T51, h51, lo51, cl'_51, g'_51, X51, e51, N51, Z51, K51, p51_1, p51_2, p51_3, st51⟩ := mg50
  have J52 : ∀ t, Steps p.tables e below (T51.setTop (mkF m 139 #[.val (.int p1), .val (.int p2), .val (.long q3), .second, .val (.int p4), .val (.int p5), .val (.int (Int32.ofNat N)), .val (.int u0_), .val (.int u1_), .val (.int u2_), .val (.int u3_), .val (.int u4_), .val (.ref b18), .unset, .unset] [])) t → Steps p.tables e below (s₁.setTop (entryFrame m #[(.int p1), (.int p2), (.long q3), (.int p4), (.int p5)] maxLocals)) t := fun t k => J38 t (st51 t k)
  have Z53 : n0 ≤ h51.size := Nat.le_trans Z37 K51.1
  have J54 : ∀ t, Steps p.tables e below (T51.setTop (mkF m 141 #[.val (.int p1), .val (.int p2), .val (.long q3), .second, .val (.int p4), .val (.int p5), .val (.int (Int32.ofNat N)), .val (.int u0_), .val (.int u1_), .val (.int u2_), .val (.int u3_), .val (.int u4_), .val (.ref b18), .unset, .unset] [(.int u2_)])) t → Steps p.tables e below (s₁.setTop (entryFrame m #[(.int p1), (.int p2), (.long q3), (.int p4), (.int p5)] maxLocals)) t := fun t k => J52 t (by
      show Steps p.tables e below (T51.setTop (mkF m 139 #[.val (.int p1), .val (.int p2), .val (.long q3), .second, .val (.int p4), .val (.int p5), .val (.int (Int32.ofNat N)), .val (.int u0_), .val (.int u1_), .val (.int u2_), .val (.int u3_), .val (.int u4_), .val (.ref b18), .unset, .unset] [])) _
      refine XS.iload X51.here hx rfl (hb hby at_139) rfl ?_
      exact k)
  have mg66 : ∃ (T' : State) (h' : Heap) (locs' : List Loc) (cl' : Cell) (g' : Nat → Int64), Stand p l e room_1 s m #[(.int p1), (.int p2), (.long q3), (.int p4), (.int p5)] below meth c T' locs' 1 5 ∧ T'.heap = h' ∧ Fr n0 locs' ∧ n0 ≤ h'.size ∧ Keep h51 h' [b18] ∧ (Arr Z h' b18 cl' .long) ∧ (own_LA cl' N g') ∧ (own_St 2 u2_ g'_51 g') ∧ ∀ t, Steps p.tables e below (T'.setTop (mkF m 153 #[.val (.int p1), .val (.int p2), .val (.long q3), .second, .val (.int p4), .val (.int p5), .val (.int (Int32.ofNat N)), .val (.int u0_), .val (.int u1_), .val (.int u2_), .val (.int u3_), .val (.int u4_), .val (.ref b18), .unset, .unset] [])) t → Steps p.tables e below (T51.setTop (mkF m 141 #[.val (.int p1), .val (.int p2), .val (.long q3), .second, .val (.int p4), .val (.int p5), .val (.int (Int32.ofNat N)), .val (.int u0_), .val (.int u1_), .val (.int u2_), .val (.int u3_), .val (.int u4_), .val (.ref b18), .unset, .unset] [(.int u2_)])) t := by
    by_cases hq : u2_ = (0 : Int32)
    ·
      have J55 : ∀ t, Steps p.tables e below (T51.setTop (mkF m 153 #[.val (.int p1), .val (.int p2), .val (.long q3), .second, .val (.int p4), .val (.int p5), .val (.int (Int32.ofNat N)), .val (.int u0_), .val (.int u1_), .val (.int u2_), .val (.int u3_), .val (.int u4_), .val (.ref b18), .unset, .unset] [])) t → Steps p.tables e below (T51.setTop (mkF m 141 #[.val (.int p1), .val (.int p2), .val (.long q3), .second, .val (.int p4), .val (.int p5), .val (.int (Int32.ofNat N)), .val (.int u0_), .val (.int u1_), .val (.int u2_), .val (.int u3_), .val (.int u4_), .val (.ref b18), .unset, .unset] [(.int u2_)])) t := fun t k => id (by
          show Steps p.tables e below (T51.setTop (mkF m 141 #[.val (.int p1), .val (.int p2), .val (.long q3), .second, .val (.int p4), .val (.int p5), .val (.int (Int32.ofNat N)), .val (.int u0_), .val (.int u1_), .val (.int u2_), .val (.int u3_), .val (.int u4_), .val (.ref b18), .unset, .unset] [(.int u2_)])) _
          refine XS.ifYes X51.here hx rfl (pc0 := 141) (pc' := 153) rfl (hb hby at_141) rfl ((if0 _ _).trans (teq hq).1) (by decide) (by decide) ?_
          exact k)
      exact ⟨T51, h51, _, cl'_51, g'_51, X51, e51, N51, Z53, (Keep.refl h51 [b18]), p51_1, p51_2, (own_St0 hq (own_Stn p51_3)), J55⟩
    ·
      have J56 : ∀ t, Steps p.tables e below (T51.setTop (mkF m 144 #[.val (.int p1), .val (.int p2), .val (.long q3), .second, .val (.int p4), .val (.int p5), .val (.int (Int32.ofNat N)), .val (.int u0_), .val (.int u1_), .val (.int u2_), .val (.int u3_), .val (.int u4_), .val (.ref b18), .unset, .unset] [])) t → Steps p.tables e below (T51.setTop (mkF m 141 #[.val (.int p1), .val (.int p2), .val (.long q3), .second, .val (.int p4), .val (.int p5), .val (.int (Int32.ofNat N)), .val (.int u0_), .val (.int u1_), .val (.int u2_), .val (.int u3_), .val (.int u4_), .val (.ref b18), .unset, .unset] [(.int u2_)])) t := fun t k => id (by
          show Steps p.tables e below (T51.setTop (mkF m 141 #[.val (.int p1), .val (.int p2), .val (.long q3), .second, .val (.int p4), .val (.int p5), .val (.int (Int32.ofNat N)), .val (.int u0_), .val (.int u1_), .val (.int u2_), .val (.int u3_), .val (.int u4_), .val (.ref b18), .unset, .unset] [(.int u2_)])) _
          refine XS.ifNo X51.here hx rfl (hb hby at_141) rfl ((if0 _ _).trans (feq hq).1) ?_
          exact k)
      have hkN : 2 < N := own_uk hN (by decide) hu2_ hq
      have J57 : ∀ t, Steps p.tables e below (T51.setTop (mkF m 149 #[.val (.int p1), .val (.int p2), .val (.long q3), .second, .val (.int p4), .val (.int p5), .val (.int (Int32.ofNat N)), .val (.int u0_), .val (.int u1_), .val (.int u2_), .val (.int u3_), .val (.int u4_), .val (.ref b18), .unset, .unset] [(.int (2 : Int32)), (.long q3), (.int (2 : Int32)), (.ref b18)])) t → Steps p.tables e below (T51.setTop (mkF m 141 #[.val (.int p1), .val (.int p2), .val (.long q3), .second, .val (.int p4), .val (.int p5), .val (.int (Int32.ofNat N)), .val (.int u0_), .val (.int u1_), .val (.int u2_), .val (.int u3_), .val (.int u4_), .val (.ref b18), .unset, .unset] [(.int u2_)])) t := fun t k => J56 t (by
          show Steps p.tables e below (T51.setTop (mkF m 144 #[.val (.int p1), .val (.int p2), .val (.long q3), .second, .val (.int p4), .val (.int p5), .val (.int (Int32.ofNat N)), .val (.int u0_), .val (.int u1_), .val (.int u2_), .val (.int u3_), .val (.int u4_), .val (.ref b18), .unset, .unset] [])) _
          refine XS.aload X51.here hx rfl (hb hby at_144) rfl rfl ?_
          show Steps p.tables e below (T51.setTop (mkF m 146 #[.val (.int p1), .val (.int p2), .val (.long q3), .second, .val (.int p4), .val (.int p5), .val (.int (Int32.ofNat N)), .val (.int u0_), .val (.int u1_), .val (.int u2_), .val (.int u3_), .val (.int u4_), .val (.ref b18), .unset, .unset] [(.ref b18)])) _
          refine XS.iconst X51.here hx rfl (hb hby at_146) ?_
          show Steps p.tables e below (T51.setTop (mkF m 147 #[.val (.int p1), .val (.int p2), .val (.long q3), .second, .val (.int p4), .val (.int p5), .val (.int (Int32.ofNat N)), .val (.int u0_), .val (.int u1_), .val (.int u2_), .val (.int u3_), .val (.int u4_), .val (.ref b18), .unset, .unset] [(.int (2 : Int32)), (.ref b18)])) _
          refine XS.lloadN X51.here hx rfl (hb hby at_147) rfl ?_
          show Steps p.tables e below (T51.setTop (mkF m 148 #[.val (.int p1), .val (.int p2), .val (.long q3), .second, .val (.int p4), .val (.int p5), .val (.int (Int32.ofNat N)), .val (.int u0_), .val (.int u1_), .val (.int u2_), .val (.int u3_), .val (.int u4_), .val (.ref b18), .unset, .unset] [(.long q3), (.int (2 : Int32)), (.ref b18)])) _
          refine XS.iconst X51.here hx rfl (hb hby at_148) ?_
          exact k)
      obtain ⟨_, _, ⟨T58, L58, k58, n58⟩, -, X58, ⟨Lc58, hQ58, l58, y58, z58⟩, st58⟩ := Jvm.LawKit.callS X51 hx (y := (⟨"com/example/quantiscope/quantiscope/threshold/BinsFirstPinLaw", "val", "(JI)J"⟩ : MethodName)) hown (mvT hZ (hw _ (List.mem_of_getElem? (i := 6) rfl))) (mvT hZ (hw _ (List.mem_of_getElem? (i := 7) rfl))) (mvT hZ (hw _ (List.mem_of_getElem? (i := 8) rfl))) (mvT hZ (hw _ (List.mem_of_getElem? (i := 9) rfl))) (by decide) (backOf (W := 2) (rm2 l Z a0 hw [] q3 (2 : Int32) h51 n0 Z53 ) hZ (hw _ (List.mem_of_getElem? (i := 9) rfl)) (hw _ (List.mem_of_getElem? (i := 8) rfl)) (by decide) (by decide)) (g := (mkF m 149 #[.val (.int p1), .val (.int p2), .val (.long q3), .second, .val (.int p4), .val (.int p5), .val (.int (Int32.ofNat N)), .val (.int u0_), .val (.int u1_), .val (.int u2_), .val (.int u3_), .val (.int u4_), .val (.ref b18), .unset, .unset] [(.int (2 : Int32)), (.long q3), (.int (2 : Int32)), (.ref b18)])) rfl (by rw [hml]; rfl) (argsL := [(.long q3), (.int (2 : Int32))]) (rest := [(.int (2 : Int32)), (.ref b18)]) (lenOf pd_0 rfl) rfl (by show 2 * 0 + _ ≤ _; exact Nat.le_of_eq rfl) (hb hby at_149) (fun _ _ => ⟨rfl, e51, (by decide : 1 + 0 ≤ _), (by decide : 5 + 0 ≤ _)⟩)
      dsimp only [Pt.U, Pt.locs, Pt.cells, Pt.slots] at X58 l58 y58 z58 st58 hQ58
      subst l58 y58 z58
      obtain ⟨r_58, rfl, Nq58, e58, p58_1⟩ := hQ58
      have N59 := Fr.app N51 Nq58
      have J60 : ∀ t, Steps p.tables e below (T58.setTop (mkF m 152 #[.val (.int p1), .val (.int p2), .val (.long q3), .second, .val (.int p4), .val (.int p5), .val (.int (Int32.ofNat N)), .val (.int u0_), .val (.int u1_), .val (.int u2_), .val (.int u3_), .val (.int u4_), .val (.ref b18), .unset, .unset] [(.long r_58), (.int (2 : Int32)), (.ref b18)])) t → Steps p.tables e below (T51.setTop (mkF m 141 #[.val (.int p1), .val (.int p2), .val (.long q3), .second, .val (.int p4), .val (.int p5), .val (.int (Int32.ofNat N)), .val (.int u0_), .val (.int u1_), .val (.int u2_), .val (.int u3_), .val (.int u4_), .val (.ref b18), .unset, .unset] [(.int u2_)])) t := fun t k => J57 t (st58 t k)
      obtain ⟨T61, h61, X61, e61, W61, st61⟩ := stJ X58 hx hZ e58 p51_1 (j := (2 : Int32)) (own_inb p51_2 (by decide) (by decide) hkN) (g := (mkF m 152 #[.val (.int p1), .val (.int p2), .val (.long q3), .second, .val (.int p4), .val (.int p5), .val (.int (Int32.ofNat N)), .val (.int u0_), .val (.int u1_), .val (.int u2_), .val (.int u3_), .val (.int u4_), .val (.ref b18), .unset, .unset] [(.long r_58), (.int (2 : Int32)), (.ref b18)])) rfl rfl (hb hby at_152)
      have J62 : ∀ t, Steps p.tables e below (T61.setTop (mkF m 153 #[.val (.int p1), .val (.int p2), .val (.long q3), .second, .val (.int p4), .val (.int p5), .val (.int (Int32.ofNat N)), .val (.int u0_), .val (.int u1_), .val (.int u2_), .val (.int u3_), .val (.int u4_), .val (.ref b18), .unset, .unset] [])) t → Steps p.tables e below (T51.setTop (mkF m 141 #[.val (.int p1), .val (.int p2), .val (.long q3), .second, .val (.int p4), .val (.int p5), .val (.int (Int32.ofNat N)), .val (.int u0_), .val (.int u1_), .val (.int u2_), .val (.int u3_), .val (.int u4_), .val (.ref b18), .unset, .unset] [(.int u2_)])) t := fun t k => J60 t (st61 t k)
      have Z63 : n0 ≤ h61.size := Nat.le_trans Z53 (Keep.of_wr W61).1
      have KK64 : Keep h51 h61 [b18] := (Keep.refl h51 [b18]).wr W61 (Or.inl (List.mem_of_getElem? (i := 0) rfl))
      have N65 := Fr.snoc X61 N59 ge20
      obtain ⟨cl61, hcl61⟩ : ∃ z, z = cl'_51.setSlot ((2 : Int32)).toNatClampNeg (.long r_58) := ⟨_, rfl⟩
      have Aw61 : Arr Z h61 b18 cl61 .long := by rw [hcl61]; exact p51_1.same W61
      exact ⟨T61, h61, _, cl61, (fun j => if j = 2 then r_58 else g'_51 j), X61, e61, N65, Z63, KK64, Aw61, (own_LAset p51_2 (by decide) hkN hcl61), (own_St1 p58_1 hq (own_Stn p51_3)), J62⟩
  obtain ⟨T67, h67, lo67, cl'_67, g'_67, X67, e67, N67, Z67, K67, p67_1, p67_2, p67_3, st67⟩ := mg66
  have J68 : ∀ t, Steps p.tables e below (T67.setTop (mkF m 153 #[.val (.int p1), .val (.int p2), .val (.long q3), .second, .val (.int p4), .val (.int p5), .val (.int (Int32.ofNat N)), .val (.int u0_), .val (.int u1_), .val (.int u2_), .val (.int u3_), .val (.int u4_), .val (.ref b18), .unset, .unset] [])) t → Steps p.tables e below (s₁.setTop (entryFrame m #[(.int p1), (.int p2), (.long q3), (.int p4), (.int p5)] maxLocals)) t := fun t k => J54 t (st67 t k)
  have Z69 : n0 ≤ h67.size := Nat.le_trans Z53 K67.1
  have J70 : ∀ t, Steps p.tables e below (T67.setTop (mkF m 155 #[.val (.int p1), .val (.int p2), .val (.long q3), .second, .val (.int p4), .val (.int p5), .val (.int (Int32.ofNat N)), .val (.int u0_), .val (.int u1_), .val (.int u2_), .val (.int u3_), .val (.int u4_), .val (.ref b18), .unset, .unset] [(.int u3_)])) t → Steps p.tables e below (s₁.setTop (entryFrame m #[(.int p1), (.int p2), (.long q3), (.int p4), (.int p5)] maxLocals)) t := fun t k => J68 t (by
      show Steps p.tables e below (T67.setTop (mkF m 153 #[.val (.int p1), .val (.int p2), .val (.long q3), .second, .val (.int p4), .val (.int p5), .val (.int (Int32.ofNat N)), .val (.int u0_), .val (.int u1_), .val (.int u2_), .val (.int u3_), .val (.int u4_), .val (.ref b18), .unset, .unset] [])) _
      refine XS.iload X67.here hx rfl (hb hby at_153) rfl ?_
      exact k)
  have mg82 : ∃ (T' : State) (h' : Heap) (locs' : List Loc) (cl' : Cell) (g' : Nat → Int64), Stand p l e room_1 s m #[(.int p1), (.int p2), (.long q3), (.int p4), (.int p5)] below meth c T' locs' 1 5 ∧ T'.heap = h' ∧ Fr n0 locs' ∧ n0 ≤ h'.size ∧ Keep h67 h' [b18] ∧ (Arr Z h' b18 cl' .long) ∧ (own_LA cl' N g') ∧ (own_St 3 u3_ g'_67 g') ∧ ∀ t, Steps p.tables e below (T'.setTop (mkF m 167 #[.val (.int p1), .val (.int p2), .val (.long q3), .second, .val (.int p4), .val (.int p5), .val (.int (Int32.ofNat N)), .val (.int u0_), .val (.int u1_), .val (.int u2_), .val (.int u3_), .val (.int u4_), .val (.ref b18), .unset, .unset] [])) t → Steps p.tables e below (T67.setTop (mkF m 155 #[.val (.int p1), .val (.int p2), .val (.long q3), .second, .val (.int p4), .val (.int p5), .val (.int (Int32.ofNat N)), .val (.int u0_), .val (.int u1_), .val (.int u2_), .val (.int u3_), .val (.int u4_), .val (.ref b18), .unset, .unset] [(.int u3_)])) t := by
    by_cases hq : u3_ = (0 : Int32)
    ·
      have J71 : ∀ t, Steps p.tables e below (T67.setTop (mkF m 167 #[.val (.int p1), .val (.int p2), .val (.long q3), .second, .val (.int p4), .val (.int p5), .val (.int (Int32.ofNat N)), .val (.int u0_), .val (.int u1_), .val (.int u2_), .val (.int u3_), .val (.int u4_), .val (.ref b18), .unset, .unset] [])) t → Steps p.tables e below (T67.setTop (mkF m 155 #[.val (.int p1), .val (.int p2), .val (.long q3), .second, .val (.int p4), .val (.int p5), .val (.int (Int32.ofNat N)), .val (.int u0_), .val (.int u1_), .val (.int u2_), .val (.int u3_), .val (.int u4_), .val (.ref b18), .unset, .unset] [(.int u3_)])) t := fun t k => id (by
          show Steps p.tables e below (T67.setTop (mkF m 155 #[.val (.int p1), .val (.int p2), .val (.long q3), .second, .val (.int p4), .val (.int p5), .val (.int (Int32.ofNat N)), .val (.int u0_), .val (.int u1_), .val (.int u2_), .val (.int u3_), .val (.int u4_), .val (.ref b18), .unset, .unset] [(.int u3_)])) _
          refine XS.ifYes X67.here hx rfl (pc0 := 155) (pc' := 167) rfl (hb hby at_155) rfl ((if0 _ _).trans (teq hq).1) (by decide) (by decide) ?_
          exact k)
      exact ⟨T67, h67, _, cl'_67, g'_67, X67, e67, N67, Z69, (Keep.refl h67 [b18]), p67_1, p67_2, (own_St0 hq (own_Stn p67_3)), J71⟩
    ·
      have J72 : ∀ t, Steps p.tables e below (T67.setTop (mkF m 158 #[.val (.int p1), .val (.int p2), .val (.long q3), .second, .val (.int p4), .val (.int p5), .val (.int (Int32.ofNat N)), .val (.int u0_), .val (.int u1_), .val (.int u2_), .val (.int u3_), .val (.int u4_), .val (.ref b18), .unset, .unset] [])) t → Steps p.tables e below (T67.setTop (mkF m 155 #[.val (.int p1), .val (.int p2), .val (.long q3), .second, .val (.int p4), .val (.int p5), .val (.int (Int32.ofNat N)), .val (.int u0_), .val (.int u1_), .val (.int u2_), .val (.int u3_), .val (.int u4_), .val (.ref b18), .unset, .unset] [(.int u3_)])) t := fun t k => id (by
          show Steps p.tables e below (T67.setTop (mkF m 155 #[.val (.int p1), .val (.int p2), .val (.long q3), .second, .val (.int p4), .val (.int p5), .val (.int (Int32.ofNat N)), .val (.int u0_), .val (.int u1_), .val (.int u2_), .val (.int u3_), .val (.int u4_), .val (.ref b18), .unset, .unset] [(.int u3_)])) _
          refine XS.ifNo X67.here hx rfl (hb hby at_155) rfl ((if0 _ _).trans (feq hq).1) ?_
          exact k)
      have hkN : 3 < N := own_uk hN (by decide) hu3_ hq
      have J73 : ∀ t, Steps p.tables e below (T67.setTop (mkF m 163 #[.val (.int p1), .val (.int p2), .val (.long q3), .second, .val (.int p4), .val (.int p5), .val (.int (Int32.ofNat N)), .val (.int u0_), .val (.int u1_), .val (.int u2_), .val (.int u3_), .val (.int u4_), .val (.ref b18), .unset, .unset] [(.int (3 : Int32)), (.long q3), (.int (3 : Int32)), (.ref b18)])) t → Steps p.tables e below (T67.setTop (mkF m 155 #[.val (.int p1), .val (.int p2), .val (.long q3), .second, .val (.int p4), .val (.int p5), .val (.int (Int32.ofNat N)), .val (.int u0_), .val (.int u1_), .val (.int u2_), .val (.int u3_), .val (.int u4_), .val (.ref b18), .unset, .unset] [(.int u3_)])) t := fun t k => J72 t (by
          show Steps p.tables e below (T67.setTop (mkF m 158 #[.val (.int p1), .val (.int p2), .val (.long q3), .second, .val (.int p4), .val (.int p5), .val (.int (Int32.ofNat N)), .val (.int u0_), .val (.int u1_), .val (.int u2_), .val (.int u3_), .val (.int u4_), .val (.ref b18), .unset, .unset] [])) _
          refine XS.aload X67.here hx rfl (hb hby at_158) rfl rfl ?_
          show Steps p.tables e below (T67.setTop (mkF m 160 #[.val (.int p1), .val (.int p2), .val (.long q3), .second, .val (.int p4), .val (.int p5), .val (.int (Int32.ofNat N)), .val (.int u0_), .val (.int u1_), .val (.int u2_), .val (.int u3_), .val (.int u4_), .val (.ref b18), .unset, .unset] [(.ref b18)])) _
          refine XS.iconst X67.here hx rfl (hb hby at_160) ?_
          show Steps p.tables e below (T67.setTop (mkF m 161 #[.val (.int p1), .val (.int p2), .val (.long q3), .second, .val (.int p4), .val (.int p5), .val (.int (Int32.ofNat N)), .val (.int u0_), .val (.int u1_), .val (.int u2_), .val (.int u3_), .val (.int u4_), .val (.ref b18), .unset, .unset] [(.int (3 : Int32)), (.ref b18)])) _
          refine XS.lloadN X67.here hx rfl (hb hby at_161) rfl ?_
          show Steps p.tables e below (T67.setTop (mkF m 162 #[.val (.int p1), .val (.int p2), .val (.long q3), .second, .val (.int p4), .val (.int p5), .val (.int (Int32.ofNat N)), .val (.int u0_), .val (.int u1_), .val (.int u2_), .val (.int u3_), .val (.int u4_), .val (.ref b18), .unset, .unset] [(.long q3), (.int (3 : Int32)), (.ref b18)])) _
          refine XS.iconst X67.here hx rfl (hb hby at_162) ?_
          exact k)
      obtain ⟨_, _, ⟨T74, L74, k74, n74⟩, -, X74, ⟨Lc74, hQ74, l74, y74, z74⟩, st74⟩ := Jvm.LawKit.callS X67 hx (y := (⟨"com/example/quantiscope/quantiscope/threshold/BinsFirstPinLaw", "val", "(JI)J"⟩ : MethodName)) hown (mvT hZ (hw _ (List.mem_of_getElem? (i := 6) rfl))) (mvT hZ (hw _ (List.mem_of_getElem? (i := 7) rfl))) (mvT hZ (hw _ (List.mem_of_getElem? (i := 8) rfl))) (mvT hZ (hw _ (List.mem_of_getElem? (i := 9) rfl))) (by decide) (backOf (W := 2) (rm2 l Z a0 hw [] q3 (3 : Int32) h67 n0 Z69 ) hZ (hw _ (List.mem_of_getElem? (i := 9) rfl)) (hw _ (List.mem_of_getElem? (i := 8) rfl)) (by decide) (by decide)) (g := (mkF m 163 #[.val (.int p1), .val (.int p2), .val (.long q3), .second, .val (.int p4), .val (.int p5), .val (.int (Int32.ofNat N)), .val (.int u0_), .val (.int u1_), .val (.int u2_), .val (.int u3_), .val (.int u4_), .val (.ref b18), .unset, .unset] [(.int (3 : Int32)), (.long q3), (.int (3 : Int32)), (.ref b18)])) rfl (by rw [hml]; rfl) (argsL := [(.long q3), (.int (3 : Int32))]) (rest := [(.int (3 : Int32)), (.ref b18)]) (lenOf pd_0 rfl) rfl (by show 2 * 0 + _ ≤ _; exact Nat.le_of_eq rfl) (hb hby at_163) (fun _ _ => ⟨rfl, e67, (by decide : 1 + 0 ≤ _), (by decide : 5 + 0 ≤ _)⟩)
      dsimp only [Pt.U, Pt.locs, Pt.cells, Pt.slots] at X74 l74 y74 z74 st74 hQ74
      subst l74 y74 z74
      obtain ⟨r_74, rfl, Nq74, e74, p74_1⟩ := hQ74
      have N75 := Fr.app N67 Nq74
      have J76 : ∀ t, Steps p.tables e below (T74.setTop (mkF m 166 #[.val (.int p1), .val (.int p2), .val (.long q3), .second, .val (.int p4), .val (.int p5), .val (.int (Int32.ofNat N)), .val (.int u0_), .val (.int u1_), .val (.int u2_), .val (.int u3_), .val (.int u4_), .val (.ref b18), .unset, .unset] [(.long r_74), (.int (3 : Int32)), (.ref b18)])) t → Steps p.tables e below (T67.setTop (mkF m 155 #[.val (.int p1), .val (.int p2), .val (.long q3), .second, .val (.int p4), .val (.int p5), .val (.int (Int32.ofNat N)), .val (.int u0_), .val (.int u1_), .val (.int u2_), .val (.int u3_), .val (.int u4_), .val (.ref b18), .unset, .unset] [(.int u3_)])) t := fun t k => J73 t (st74 t k)
      obtain ⟨T77, h77, X77, e77, W77, st77⟩ := stJ X74 hx hZ e74 p67_1 (j := (3 : Int32)) (own_inb p67_2 (by decide) (by decide) hkN) (g := (mkF m 166 #[.val (.int p1), .val (.int p2), .val (.long q3), .second, .val (.int p4), .val (.int p5), .val (.int (Int32.ofNat N)), .val (.int u0_), .val (.int u1_), .val (.int u2_), .val (.int u3_), .val (.int u4_), .val (.ref b18), .unset, .unset] [(.long r_74), (.int (3 : Int32)), (.ref b18)])) rfl rfl (hb hby at_166)
      have J78 : ∀ t, Steps p.tables e below (T77.setTop (mkF m 167 #[.val (.int p1), .val (.int p2), .val (.long q3), .second, .val (.int p4), .val (.int p5), .val (.int (Int32.ofNat N)), .val (.int u0_), .val (.int u1_), .val (.int u2_), .val (.int u3_), .val (.int u4_), .val (.ref b18), .unset, .unset] [])) t → Steps p.tables e below (T67.setTop (mkF m 155 #[.val (.int p1), .val (.int p2), .val (.long q3), .second, .val (.int p4), .val (.int p5), .val (.int (Int32.ofNat N)), .val (.int u0_), .val (.int u1_), .val (.int u2_), .val (.int u3_), .val (.int u4_), .val (.ref b18), .unset, .unset] [(.int u3_)])) t := fun t k => J76 t (st77 t k)
      have Z79 : n0 ≤ h77.size := Nat.le_trans Z69 (Keep.of_wr W77).1
      have KK80 : Keep h67 h77 [b18] := (Keep.refl h67 [b18]).wr W77 (Or.inl (List.mem_of_getElem? (i := 0) rfl))
      have N81 := Fr.snoc X77 N75 ge20
      obtain ⟨cl77, hcl77⟩ : ∃ z, z = cl'_67.setSlot ((3 : Int32)).toNatClampNeg (.long r_74) := ⟨_, rfl⟩
      have Aw77 : Arr Z h77 b18 cl77 .long := by rw [hcl77]; exact p67_1.same W77
      exact ⟨T77, h77, _, cl77, (fun j => if j = 3 then r_74 else g'_67 j), X77, e77, N81, Z79, KK80, Aw77, (own_LAset p67_2 (by decide) hkN hcl77), (own_St1 p74_1 hq (own_Stn p67_3)), J78⟩
  obtain ⟨T83, h83, lo83, cl'_83, g'_83, X83, e83, N83, Z83, K83, p83_1, p83_2, p83_3, st83⟩ := mg82
  have J84 : ∀ t, Steps p.tables e below (T83.setTop (mkF m 167 #[.val (.int p1), .val (.int p2), .val (.long q3), .second, .val (.int p4), .val (.int p5), .val (.int (Int32.ofNat N)), .val (.int u0_), .val (.int u1_), .val (.int u2_), .val (.int u3_), .val (.int u4_), .val (.ref b18), .unset, .unset] [])) t → Steps p.tables e below (s₁.setTop (entryFrame m #[(.int p1), (.int p2), (.long q3), (.int p4), (.int p5)] maxLocals)) t := fun t k => J70 t (st83 t k)
  have Z85 : n0 ≤ h83.size := Nat.le_trans Z69 K83.1
  have J86 : ∀ t, Steps p.tables e below (T83.setTop (mkF m 169 #[.val (.int p1), .val (.int p2), .val (.long q3), .second, .val (.int p4), .val (.int p5), .val (.int (Int32.ofNat N)), .val (.int u0_), .val (.int u1_), .val (.int u2_), .val (.int u3_), .val (.int u4_), .val (.ref b18), .unset, .unset] [(.int u4_)])) t → Steps p.tables e below (s₁.setTop (entryFrame m #[(.int p1), (.int p2), (.long q3), (.int p4), (.int p5)] maxLocals)) t := fun t k => J84 t (by
      show Steps p.tables e below (T83.setTop (mkF m 167 #[.val (.int p1), .val (.int p2), .val (.long q3), .second, .val (.int p4), .val (.int p5), .val (.int (Int32.ofNat N)), .val (.int u0_), .val (.int u1_), .val (.int u2_), .val (.int u3_), .val (.int u4_), .val (.ref b18), .unset, .unset] [])) _
      refine XS.iload X83.here hx rfl (hb hby at_167) rfl ?_
      exact k)
  have mg98 : ∃ (T' : State) (h' : Heap) (locs' : List Loc) (cl' : Cell) (g' : Nat → Int64), Stand p l e room_1 s m #[(.int p1), (.int p2), (.long q3), (.int p4), (.int p5)] below meth c T' locs' 1 5 ∧ T'.heap = h' ∧ Fr n0 locs' ∧ n0 ≤ h'.size ∧ Keep h83 h' [b18] ∧ (Arr Z h' b18 cl' .long) ∧ (own_LA cl' N g') ∧ (own_St 4 u4_ g'_83 g') ∧ ∀ t, Steps p.tables e below (T'.setTop (mkF m 181 #[.val (.int p1), .val (.int p2), .val (.long q3), .second, .val (.int p4), .val (.int p5), .val (.int (Int32.ofNat N)), .val (.int u0_), .val (.int u1_), .val (.int u2_), .val (.int u3_), .val (.int u4_), .val (.ref b18), .unset, .unset] [])) t → Steps p.tables e below (T83.setTop (mkF m 169 #[.val (.int p1), .val (.int p2), .val (.long q3), .second, .val (.int p4), .val (.int p5), .val (.int (Int32.ofNat N)), .val (.int u0_), .val (.int u1_), .val (.int u2_), .val (.int u3_), .val (.int u4_), .val (.ref b18), .unset, .unset] [(.int u4_)])) t := by
    by_cases hq : u4_ = (0 : Int32)
    ·
      have J87 : ∀ t, Steps p.tables e below (T83.setTop (mkF m 181 #[.val (.int p1), .val (.int p2), .val (.long q3), .second, .val (.int p4), .val (.int p5), .val (.int (Int32.ofNat N)), .val (.int u0_), .val (.int u1_), .val (.int u2_), .val (.int u3_), .val (.int u4_), .val (.ref b18), .unset, .unset] [])) t → Steps p.tables e below (T83.setTop (mkF m 169 #[.val (.int p1), .val (.int p2), .val (.long q3), .second, .val (.int p4), .val (.int p5), .val (.int (Int32.ofNat N)), .val (.int u0_), .val (.int u1_), .val (.int u2_), .val (.int u3_), .val (.int u4_), .val (.ref b18), .unset, .unset] [(.int u4_)])) t := fun t k => id (by
          show Steps p.tables e below (T83.setTop (mkF m 169 #[.val (.int p1), .val (.int p2), .val (.long q3), .second, .val (.int p4), .val (.int p5), .val (.int (Int32.ofNat N)), .val (.int u0_), .val (.int u1_), .val (.int u2_), .val (.int u3_), .val (.int u4_), .val (.ref b18), .unset, .unset] [(.int u4_)])) _
          refine XS.ifYes X83.here hx rfl (pc0 := 169) (pc' := 181) rfl (hb hby at_169) rfl ((if0 _ _).trans (teq hq).1) (by decide) (by decide) ?_
          exact k)
      exact ⟨T83, h83, _, cl'_83, g'_83, X83, e83, N83, Z85, (Keep.refl h83 [b18]), p83_1, p83_2, (own_St0 hq (own_Stn p83_3)), J87⟩
    ·
      have J88 : ∀ t, Steps p.tables e below (T83.setTop (mkF m 172 #[.val (.int p1), .val (.int p2), .val (.long q3), .second, .val (.int p4), .val (.int p5), .val (.int (Int32.ofNat N)), .val (.int u0_), .val (.int u1_), .val (.int u2_), .val (.int u3_), .val (.int u4_), .val (.ref b18), .unset, .unset] [])) t → Steps p.tables e below (T83.setTop (mkF m 169 #[.val (.int p1), .val (.int p2), .val (.long q3), .second, .val (.int p4), .val (.int p5), .val (.int (Int32.ofNat N)), .val (.int u0_), .val (.int u1_), .val (.int u2_), .val (.int u3_), .val (.int u4_), .val (.ref b18), .unset, .unset] [(.int u4_)])) t := fun t k => id (by
          show Steps p.tables e below (T83.setTop (mkF m 169 #[.val (.int p1), .val (.int p2), .val (.long q3), .second, .val (.int p4), .val (.int p5), .val (.int (Int32.ofNat N)), .val (.int u0_), .val (.int u1_), .val (.int u2_), .val (.int u3_), .val (.int u4_), .val (.ref b18), .unset, .unset] [(.int u4_)])) _
          refine XS.ifNo X83.here hx rfl (hb hby at_169) rfl ((if0 _ _).trans (feq hq).1) ?_
          exact k)
      have hkN : 4 < N := own_uk hN (by decide) hu4_ hq
      have J89 : ∀ t, Steps p.tables e below (T83.setTop (mkF m 177 #[.val (.int p1), .val (.int p2), .val (.long q3), .second, .val (.int p4), .val (.int p5), .val (.int (Int32.ofNat N)), .val (.int u0_), .val (.int u1_), .val (.int u2_), .val (.int u3_), .val (.int u4_), .val (.ref b18), .unset, .unset] [(.int (4 : Int32)), (.long q3), (.int (4 : Int32)), (.ref b18)])) t → Steps p.tables e below (T83.setTop (mkF m 169 #[.val (.int p1), .val (.int p2), .val (.long q3), .second, .val (.int p4), .val (.int p5), .val (.int (Int32.ofNat N)), .val (.int u0_), .val (.int u1_), .val (.int u2_), .val (.int u3_), .val (.int u4_), .val (.ref b18), .unset, .unset] [(.int u4_)])) t := fun t k => J88 t (by
          show Steps p.tables e below (T83.setTop (mkF m 172 #[.val (.int p1), .val (.int p2), .val (.long q3), .second, .val (.int p4), .val (.int p5), .val (.int (Int32.ofNat N)), .val (.int u0_), .val (.int u1_), .val (.int u2_), .val (.int u3_), .val (.int u4_), .val (.ref b18), .unset, .unset] [])) _
          refine XS.aload X83.here hx rfl (hb hby at_172) rfl rfl ?_
          show Steps p.tables e below (T83.setTop (mkF m 174 #[.val (.int p1), .val (.int p2), .val (.long q3), .second, .val (.int p4), .val (.int p5), .val (.int (Int32.ofNat N)), .val (.int u0_), .val (.int u1_), .val (.int u2_), .val (.int u3_), .val (.int u4_), .val (.ref b18), .unset, .unset] [(.ref b18)])) _
          refine XS.iconst X83.here hx rfl (hb hby at_174) ?_
          show Steps p.tables e below (T83.setTop (mkF m 175 #[.val (.int p1), .val (.int p2), .val (.long q3), .second, .val (.int p4), .val (.int p5), .val (.int (Int32.ofNat N)), .val (.int u0_), .val (.int u1_), .val (.int u2_), .val (.int u3_), .val (.int u4_), .val (.ref b18), .unset, .unset] [(.int (4 : Int32)), (.ref b18)])) _
          refine XS.lloadN X83.here hx rfl (hb hby at_175) rfl ?_
          show Steps p.tables e below (T83.setTop (mkF m 176 #[.val (.int p1), .val (.int p2), .val (.long q3), .second, .val (.int p4), .val (.int p5), .val (.int (Int32.ofNat N)), .val (.int u0_), .val (.int u1_), .val (.int u2_), .val (.int u3_), .val (.int u4_), .val (.ref b18), .unset, .unset] [(.long q3), (.int (4 : Int32)), (.ref b18)])) _
          refine XS.iconst X83.here hx rfl (hb hby at_176) ?_
          exact k)
      obtain ⟨_, _, ⟨T90, L90, k90, n90⟩, -, X90, ⟨Lc90, hQ90, l90, y90, z90⟩, st90⟩ := Jvm.LawKit.callS X83 hx (y := (⟨"com/example/quantiscope/quantiscope/threshold/BinsFirstPinLaw", "val", "(JI)J"⟩ : MethodName)) hown (mvT hZ (hw _ (List.mem_of_getElem? (i := 6) rfl))) (mvT hZ (hw _ (List.mem_of_getElem? (i := 7) rfl))) (mvT hZ (hw _ (List.mem_of_getElem? (i := 8) rfl))) (mvT hZ (hw _ (List.mem_of_getElem? (i := 9) rfl))) (by decide) (backOf (W := 2) (rm2 l Z a0 hw [] q3 (4 : Int32) h83 n0 Z85 ) hZ (hw _ (List.mem_of_getElem? (i := 9) rfl)) (hw _ (List.mem_of_getElem? (i := 8) rfl)) (by decide) (by decide)) (g := (mkF m 177 #[.val (.int p1), .val (.int p2), .val (.long q3), .second, .val (.int p4), .val (.int p5), .val (.int (Int32.ofNat N)), .val (.int u0_), .val (.int u1_), .val (.int u2_), .val (.int u3_), .val (.int u4_), .val (.ref b18), .unset, .unset] [(.int (4 : Int32)), (.long q3), (.int (4 : Int32)), (.ref b18)])) rfl (by rw [hml]; rfl) (argsL := [(.long q3), (.int (4 : Int32))]) (rest := [(.int (4 : Int32)), (.ref b18)]) (lenOf pd_0 rfl) rfl (by show 2 * 0 + _ ≤ _; exact Nat.le_of_eq rfl) (hb hby at_177) (fun _ _ => ⟨rfl, e83, (by decide : 1 + 0 ≤ _), (by decide : 5 + 0 ≤ _)⟩)
      dsimp only [Pt.U, Pt.locs, Pt.cells, Pt.slots] at X90 l90 y90 z90 st90 hQ90
      subst l90 y90 z90
      obtain ⟨r_90, rfl, Nq90, e90, p90_1⟩ := hQ90
      have N91 := Fr.app N83 Nq90
      have J92 : ∀ t, Steps p.tables e below (T90.setTop (mkF m 180 #[.val (.int p1), .val (.int p2), .val (.long q3), .second, .val (.int p4), .val (.int p5), .val (.int (Int32.ofNat N)), .val (.int u0_), .val (.int u1_), .val (.int u2_), .val (.int u3_), .val (.int u4_), .val (.ref b18), .unset, .unset] [(.long r_90), (.int (4 : Int32)), (.ref b18)])) t → Steps p.tables e below (T83.setTop (mkF m 169 #[.val (.int p1), .val (.int p2), .val (.long q3), .second, .val (.int p4), .val (.int p5), .val (.int (Int32.ofNat N)), .val (.int u0_), .val (.int u1_), .val (.int u2_), .val (.int u3_), .val (.int u4_), .val (.ref b18), .unset, .unset] [(.int u4_)])) t := fun t k => J89 t (st90 t k)
      obtain ⟨T93, h93, X93, e93, W93, st93⟩ := stJ X90 hx hZ e90 p83_1 (j := (4 : Int32)) (own_inb p83_2 (by decide) (by decide) hkN) (g := (mkF m 180 #[.val (.int p1), .val (.int p2), .val (.long q3), .second, .val (.int p4), .val (.int p5), .val (.int (Int32.ofNat N)), .val (.int u0_), .val (.int u1_), .val (.int u2_), .val (.int u3_), .val (.int u4_), .val (.ref b18), .unset, .unset] [(.long r_90), (.int (4 : Int32)), (.ref b18)])) rfl rfl (hb hby at_180)
      have J94 : ∀ t, Steps p.tables e below (T93.setTop (mkF m 181 #[.val (.int p1), .val (.int p2), .val (.long q3), .second, .val (.int p4), .val (.int p5), .val (.int (Int32.ofNat N)), .val (.int u0_), .val (.int u1_), .val (.int u2_), .val (.int u3_), .val (.int u4_), .val (.ref b18), .unset, .unset] [])) t → Steps p.tables e below (T83.setTop (mkF m 169 #[.val (.int p1), .val (.int p2), .val (.long q3), .second, .val (.int p4), .val (.int p5), .val (.int (Int32.ofNat N)), .val (.int u0_), .val (.int u1_), .val (.int u2_), .val (.int u3_), .val (.int u4_), .val (.ref b18), .unset, .unset] [(.int u4_)])) t := fun t k => J92 t (st93 t k)
      have Z95 : n0 ≤ h93.size := Nat.le_trans Z85 (Keep.of_wr W93).1
      have KK96 : Keep h83 h93 [b18] := (Keep.refl h83 [b18]).wr W93 (Or.inl (List.mem_of_getElem? (i := 0) rfl))
      have N97 := Fr.snoc X93 N91 ge20
      obtain ⟨cl93, hcl93⟩ : ∃ z, z = cl'_83.setSlot ((4 : Int32)).toNatClampNeg (.long r_90) := ⟨_, rfl⟩
      have Aw93 : Arr Z h93 b18 cl93 .long := by rw [hcl93]; exact p83_1.same W93
      exact ⟨T93, h93, _, cl93, (fun j => if j = 4 then r_90 else g'_83 j), X93, e93, N97, Z95, KK96, Aw93, (own_LAset p83_2 (by decide) hkN hcl93), (own_St1 p90_1 hq (own_Stn p83_3)), J94⟩
  obtain ⟨T99, h99, lo99, cl'_99, g'_99, X99, e99, N99, Z99, K99, p99_1, p99_2, p99_3, st99⟩ := mg98
  have J100 : ∀ t, Steps p.tables e below (T99.setTop (mkF m 181 #[.val (.int p1), .val (.int p2), .val (.long q3), .second, .val (.int p4), .val (.int p5), .val (.int (Int32.ofNat N)), .val (.int u0_), .val (.int u1_), .val (.int u2_), .val (.int u3_), .val (.int u4_), .val (.ref b18), .unset, .unset] [])) t → Steps p.tables e below (s₁.setTop (entryFrame m #[(.int p1), (.int p2), (.long q3), (.int p4), (.int p5)] maxLocals)) t := fun t k => J86 t (st99 t k)
  have Z101 : n0 ≤ h99.size := Nat.le_trans Z85 K99.1
  obtain ⟨fr, hfr⟩ : ∃ z : Int32, z = (if (p5 &&& (1 : Int32)) = (0 : Int32) then ((p4 &&& (2147483647 : Int32)) % (7 : Int32)) else (p4 &&& (2147483647 : Int32))) := ⟨_, rfl⟩
  have ps102 : ∀ t, Steps p.tables e below (T99.setTop (mkF m 204 #[.val (.int p1), .val (.int p2), .val (.long q3), .second, .val (.int p4), .val (.int p5), .val (.int (Int32.ofNat N)), .val (.int u0_), .val (.int u1_), .val (.int u2_), .val (.int u3_), .val (.int u4_), .val (.ref b18), .unset, .unset] [(.int fr)])) t → Steps p.tables e below (T99.setTop (mkF m 181 #[.val (.int p1), .val (.int p2), .val (.long q3), .second, .val (.int p4), .val (.int p5), .val (.int (Int32.ofNat N)), .val (.int u0_), .val (.int u1_), .val (.int u2_), .val (.int u3_), .val (.int u4_), .val (.ref b18), .unset, .unset] [])) t := by
    intro t k
    show Steps p.tables e below (T99.setTop (mkF m 181 #[.val (.int p1), .val (.int p2), .val (.long q3), .second, .val (.int p4), .val (.int p5), .val (.int (Int32.ofNat N)), .val (.int u0_), .val (.int u1_), .val (.int u2_), .val (.int u3_), .val (.int u4_), .val (.ref b18), .unset, .unset] [])) _
    refine XS.iload X99.here hx rfl (hb hby at_181) rfl ?_
    show Steps p.tables e below (T99.setTop (mkF m 183 #[.val (.int p1), .val (.int p2), .val (.long q3), .second, .val (.int p4), .val (.int p5), .val (.int (Int32.ofNat N)), .val (.int u0_), .val (.int u1_), .val (.int u2_), .val (.int u3_), .val (.int u4_), .val (.ref b18), .unset, .unset] [(.int p5)])) _
    refine XS.iconst X99.here hx rfl (hb hby at_183) ?_
    show Steps p.tables e below (T99.setTop (mkF m 184 #[.val (.int p1), .val (.int p2), .val (.long q3), .second, .val (.int p4), .val (.int p5), .val (.int (Int32.ofNat N)), .val (.int u0_), .val (.int u1_), .val (.int u2_), .val (.int u3_), .val (.int u4_), .val (.ref b18), .unset, .unset] [(.int (1 : Int32)), (.int p5)])) _
    refine XS.iand X99.here hx rfl (hb hby at_184) rfl ?_
    by_cases hm185_0 : (p5 &&& (1 : Int32)) = (0 : Int32)
    ·
      show Steps p.tables e below (T99.setTop (mkF m 185 #[.val (.int p1), .val (.int p2), .val (.long q3), .second, .val (.int p4), .val (.int p5), .val (.int (Int32.ofNat N)), .val (.int u0_), .val (.int u1_), .val (.int u2_), .val (.int u3_), .val (.int u4_), .val (.ref b18), .unset, .unset] [(.int (p5 &&& (1 : Int32)))])) _
      refine XS.ifYes X99.here hx rfl (pc0 := 185) (pc' := 196) rfl (hb hby at_185) rfl ((if0 _ _).trans (teq hm185_0).1) (by decide) (by decide) ?_
      show Steps p.tables e below (T99.setTop (mkF m 196 #[.val (.int p1), .val (.int p2), .val (.long q3), .second, .val (.int p4), .val (.int p5), .val (.int (Int32.ofNat N)), .val (.int u0_), .val (.int u1_), .val (.int u2_), .val (.int u3_), .val (.int u4_), .val (.ref b18), .unset, .unset] [])) _
      refine XS.iload X99.here hx rfl (hb hby at_196) rfl ?_
      show Steps p.tables e below (T99.setTop (mkF m 198 #[.val (.int p1), .val (.int p2), .val (.long q3), .second, .val (.int p4), .val (.int p5), .val (.int (Int32.ofNat N)), .val (.int u0_), .val (.int u1_), .val (.int u2_), .val (.int u3_), .val (.int u4_), .val (.ref b18), .unset, .unset] [(.int p4)])) _
      refine X99.ldcInt hx hown (mvT hZ (hw _ (List.mem_of_getElem? (i := 0) rfl))) (g := (mkF m 198 #[.val (.int p1), .val (.int p2), .val (.long q3), .second, .val (.int p4), .val (.int p5), .val (.int (Int32.ofNat N)), .val (.int u0_), .val (.int u1_), .val (.int u2_), .val (.int u3_), .val (.int u4_), .val (.ref b18), .unset, .unset] [(.int p4)])) rfl (hb hby at_198) _ ?_
      show Steps p.tables e below (T99.setTop (mkF m 200 #[.val (.int p1), .val (.int p2), .val (.long q3), .second, .val (.int p4), .val (.int p5), .val (.int (Int32.ofNat N)), .val (.int u0_), .val (.int u1_), .val (.int u2_), .val (.int u3_), .val (.int u4_), .val (.ref b18), .unset, .unset] [(.int (2147483647 : Int32)), (.int p4)])) _
      refine XS.iand X99.here hx rfl (hb hby at_200) rfl ?_
      show Steps p.tables e below (T99.setTop (mkF m 201 #[.val (.int p1), .val (.int p2), .val (.long q3), .second, .val (.int p4), .val (.int p5), .val (.int (Int32.ofNat N)), .val (.int u0_), .val (.int u1_), .val (.int u2_), .val (.int u3_), .val (.int u4_), .val (.ref b18), .unset, .unset] [(.int (p4 &&& (2147483647 : Int32)))])) _
      refine XS.bipush X99.here hx rfl (hb hby at_201) ?_
      show Steps p.tables e below (T99.setTop (mkF m 203 #[.val (.int p1), .val (.int p2), .val (.long q3), .second, .val (.int p4), .val (.int p5), .val (.int (Int32.ofNat N)), .val (.int u0_), .val (.int u1_), .val (.int u2_), .val (.int u3_), .val (.int u4_), .val (.ref b18), .unset, .unset] [(.int (7 : Int32)), (.int (p4 &&& (2147483647 : Int32)))])) _
      refine iremM X99 hx rfl (hb hby at_203) rfl (by decide) ?_
      have qfr : fr = ((p4 &&& (2147483647 : Int32)) % (7 : Int32)) := by rw [hfr]; simp only [hm185_0, if_true, if_false, reduceIte]
      rw [qfr] at k
      exact k
    ·
      show Steps p.tables e below (T99.setTop (mkF m 185 #[.val (.int p1), .val (.int p2), .val (.long q3), .second, .val (.int p4), .val (.int p5), .val (.int (Int32.ofNat N)), .val (.int u0_), .val (.int u1_), .val (.int u2_), .val (.int u3_), .val (.int u4_), .val (.ref b18), .unset, .unset] [(.int (p5 &&& (1 : Int32)))])) _
      refine XS.ifNo X99.here hx rfl (hb hby at_185) rfl ((if0 _ _).trans (feq hm185_0).1) ?_
      show Steps p.tables e below (T99.setTop (mkF m 188 #[.val (.int p1), .val (.int p2), .val (.long q3), .second, .val (.int p4), .val (.int p5), .val (.int (Int32.ofNat N)), .val (.int u0_), .val (.int u1_), .val (.int u2_), .val (.int u3_), .val (.int u4_), .val (.ref b18), .unset, .unset] [])) _
      refine XS.iload X99.here hx rfl (hb hby at_188) rfl ?_
      show Steps p.tables e below (T99.setTop (mkF m 190 #[.val (.int p1), .val (.int p2), .val (.long q3), .second, .val (.int p4), .val (.int p5), .val (.int (Int32.ofNat N)), .val (.int u0_), .val (.int u1_), .val (.int u2_), .val (.int u3_), .val (.int u4_), .val (.ref b18), .unset, .unset] [(.int p4)])) _
      refine X99.ldcInt hx hown (mvT hZ (hw _ (List.mem_of_getElem? (i := 0) rfl))) (g := (mkF m 190 #[.val (.int p1), .val (.int p2), .val (.long q3), .second, .val (.int p4), .val (.int p5), .val (.int (Int32.ofNat N)), .val (.int u0_), .val (.int u1_), .val (.int u2_), .val (.int u3_), .val (.int u4_), .val (.ref b18), .unset, .unset] [(.int p4)])) rfl (hb hby at_190) _ ?_
      show Steps p.tables e below (T99.setTop (mkF m 192 #[.val (.int p1), .val (.int p2), .val (.long q3), .second, .val (.int p4), .val (.int p5), .val (.int (Int32.ofNat N)), .val (.int u0_), .val (.int u1_), .val (.int u2_), .val (.int u3_), .val (.int u4_), .val (.ref b18), .unset, .unset] [(.int (2147483647 : Int32)), (.int p4)])) _
      refine XS.iand X99.here hx rfl (hb hby at_192) rfl ?_
      show Steps p.tables e below (T99.setTop (mkF m 193 #[.val (.int p1), .val (.int p2), .val (.long q3), .second, .val (.int p4), .val (.int p5), .val (.int (Int32.ofNat N)), .val (.int u0_), .val (.int u1_), .val (.int u2_), .val (.int u3_), .val (.int u4_), .val (.ref b18), .unset, .unset] [(.int (p4 &&& (2147483647 : Int32)))])) _
      refine XS.goto X99.here hx rfl (pc0 := 193) (pc' := 204) rfl (hb hby at_193) (by decide) (by decide) ?_
      have qfr : fr = (p4 &&& (2147483647 : Int32)) := by rw [hfr]; simp only [hm185_0, if_true, if_false, reduceIte]
      rw [qfr] at k
      exact k
  have J103 : ∀ t, Steps p.tables e below (T99.setTop (mkF m 204 #[.val (.int p1), .val (.int p2), .val (.long q3), .second, .val (.int p4), .val (.int p5), .val (.int (Int32.ofNat N)), .val (.int u0_), .val (.int u1_), .val (.int u2_), .val (.int u3_), .val (.int u4_), .val (.ref b18), .unset, .unset] [(.int fr)])) t → Steps p.tables e below (s₁.setTop (entryFrame m #[(.int p1), (.int p2), (.long q3), (.int p4), (.int p5)] maxLocals)) t := fun t k => J100 t (ps102 t k)
  obtain ⟨F, hF, hfrF⟩ := own_from p4 p5 fr hfr
  have hf : ∀ j, g'_99 j ≠ 0 → j < N := by
    intro j hj
    obtain ⟨s00, s01, s02⟩ := p35_3
    obtain ⟨s10, s11, s12⟩ := p51_3
    obtain ⟨s20, s21, s22⟩ := p67_3
    obtain ⟨s30, s31, s32⟩ := p83_3
    obtain ⟨s40, s41, s42⟩ := p99_3
    match j, hj with
    | 0, hj => rw [s41 0 (by decide), s31 0 (by decide), s21 0 (by decide), s11 0 (by decide)] at hj; exact own_uk hN (by decide) hu0_ (s00.mp hj)
    | 1, hj => rw [s41 1 (by decide), s31 1 (by decide), s21 1 (by decide)] at hj; exact own_uk hN (by decide) hu1_ (s10.mp hj)
    | 2, hj => rw [s41 2 (by decide), s31 2 (by decide)] at hj; exact own_uk hN (by decide) hu2_ (s20.mp hj)
    | 3, hj => rw [s41 3 (by decide)] at hj; exact own_uk hN (by decide) hu3_ (s30.mp hj)
    | 4, hj => exact own_uk hN (by decide) hu4_ (s40.mp hj)
    | j + 5, hj => exact absurd (s42 (j + 5) (by omega)) hj
  have hP0 : (fun j => F ≤ j ∧ g'_99 j ≠ 0) 0 ↔ F ≤ 0 ∧ ¬ u0_ = (0 : Int32) := and_congr_right fun _ => (by rw [p99_3.2.1 0 (by decide), p83_3.2.1 0 (by decide), p67_3.2.1 0 (by decide), p51_3.2.1 0 (by decide)]; exact p35_3.1)
  have hP1 : (fun j => F ≤ j ∧ g'_99 j ≠ 0) 1 ↔ F ≤ 1 ∧ ¬ u1_ = (0 : Int32) := and_congr_right fun _ => (by rw [p99_3.2.1 1 (by decide), p83_3.2.1 1 (by decide), p67_3.2.1 1 (by decide)]; exact p51_3.1)
  have hP2 : (fun j => F ≤ j ∧ g'_99 j ≠ 0) 2 ↔ F ≤ 2 ∧ ¬ u2_ = (0 : Int32) := and_congr_right fun _ => (by rw [p99_3.2.1 2 (by decide), p83_3.2.1 2 (by decide)]; exact p67_3.1)
  have hP3 : (fun j => F ≤ j ∧ g'_99 j ≠ 0) 3 ↔ F ≤ 3 ∧ ¬ u3_ = (0 : Int32) := and_congr_right fun _ => (by rw [p99_3.2.1 3 (by decide)]; exact p83_3.1)
  have hP4 : (fun j => F ≤ j ∧ g'_99 j ≠ 0) 4 ↔ F ≤ 4 ∧ ¬ u4_ = (0 : Int32) := and_congr_right fun _ => (by exact p99_3.1)
  have hI5 : own_Inv (fun j => F ≤ j ∧ g'_99 j ≠ 0) 5 (-1 : Int32) := Or.inr ⟨fun j h1 h2 => by omega, rfl⟩
  have J104 : ∀ t, Steps p.tables e below (T99.setTop (mkF m 209 #[.val (.int p1), .val (.int p2), .val (.long q3), .second, .val (.int p4), .val (.int p5), .val (.int (Int32.ofNat N)), .val (.int u0_), .val (.int u1_), .val (.int u2_), .val (.int u3_), .val (.int u4_), .val (.ref b18), .val (.int fr), .val (.int (-1 : Int32))] [])) t → Steps p.tables e below (s₁.setTop (entryFrame m #[(.int p1), (.int p2), (.long q3), (.int p4), (.int p5)] maxLocals)) t := fun t k => J103 t (by
      show Steps p.tables e below (T99.setTop (mkF m 204 #[.val (.int p1), .val (.int p2), .val (.long q3), .second, .val (.int p4), .val (.int p5), .val (.int (Int32.ofNat N)), .val (.int u0_), .val (.int u1_), .val (.int u2_), .val (.int u3_), .val (.int u4_), .val (.ref b18), .unset, .unset] [(.int fr)])) _
      refine XS.istore X99.here hx rfl (hb hby at_204) rfl (l' := #[.val (.int p1), .val (.int p2), .val (.long q3), .second, .val (.int p4), .val (.int p5), .val (.int (Int32.ofNat N)), .val (.int u0_), .val (.int u1_), .val (.int u2_), .val (.int u3_), .val (.int u4_), .val (.ref b18), .val (.int fr), .unset]) rfl ?_
      show Steps p.tables e below (T99.setTop (mkF m 206 #[.val (.int p1), .val (.int p2), .val (.long q3), .second, .val (.int p4), .val (.int p5), .val (.int (Int32.ofNat N)), .val (.int u0_), .val (.int u1_), .val (.int u2_), .val (.int u3_), .val (.int u4_), .val (.ref b18), .val (.int fr), .unset] [])) _
      refine XS.iconst X99.here hx rfl (hb hby at_206) ?_
      show Steps p.tables e below (T99.setTop (mkF m 207 #[.val (.int p1), .val (.int p2), .val (.long q3), .second, .val (.int p4), .val (.int p5), .val (.int (Int32.ofNat N)), .val (.int u0_), .val (.int u1_), .val (.int u2_), .val (.int u3_), .val (.int u4_), .val (.ref b18), .val (.int fr), .unset] [(.int (-1 : Int32))])) _
      refine XS.istore X99.here hx rfl (hb hby at_207) rfl (l' := #[.val (.int p1), .val (.int p2), .val (.long q3), .second, .val (.int p4), .val (.int p5), .val (.int (Int32.ofNat N)), .val (.int u0_), .val (.int u1_), .val (.int u2_), .val (.int u3_), .val (.int u4_), .val (.ref b18), .val (.int fr), .val (.int (-1 : Int32))]) rfl ?_
      exact k)
  obtain ⟨e4_, he4_⟩ : ∃ z : Int32, z = (if (4 : Int32) < fr then (-1 : Int32) else (if u4_ = (0 : Int32) then (-1 : Int32) else (4 : Int32))) := ⟨_, rfl⟩
  have ps105 : ∀ t, Steps p.tables e below (T99.setTop (mkF m 223 #[.val (.int p1), .val (.int p2), .val (.long q3), .second, .val (.int p4), .val (.int p5), .val (.int (Int32.ofNat N)), .val (.int u0_), .val (.int u1_), .val (.int u2_), .val (.int u3_), .val (.int u4_), .val (.ref b18), .val (.int fr), .val (.int e4_)] [])) t → Steps p.tables e below (T99.setTop (mkF m 209 #[.val (.int p1), .val (.int p2), .val (.long q3), .second, .val (.int p4), .val (.int p5), .val (.int (Int32.ofNat N)), .val (.int u0_), .val (.int u1_), .val (.int u2_), .val (.int u3_), .val (.int u4_), .val (.ref b18), .val (.int fr), .val (.int (-1 : Int32))] [])) t := by
    intro t k
    show Steps p.tables e below (T99.setTop (mkF m 209 #[.val (.int p1), .val (.int p2), .val (.long q3), .second, .val (.int p4), .val (.int p5), .val (.int (Int32.ofNat N)), .val (.int u0_), .val (.int u1_), .val (.int u2_), .val (.int u3_), .val (.int u4_), .val (.ref b18), .val (.int fr), .val (.int (-1 : Int32))] [])) _
    refine XS.iload X99.here hx rfl (hb hby at_209) rfl ?_
    show Steps p.tables e below (T99.setTop (mkF m 211 #[.val (.int p1), .val (.int p2), .val (.long q3), .second, .val (.int p4), .val (.int p5), .val (.int (Int32.ofNat N)), .val (.int u0_), .val (.int u1_), .val (.int u2_), .val (.int u3_), .val (.int u4_), .val (.ref b18), .val (.int fr), .val (.int (-1 : Int32))] [(.int fr)])) _
    refine XS.iconst X99.here hx rfl (hb hby at_211) ?_
    by_cases hm212_0 : (4 : Int32) < fr
    ·
      show Steps p.tables e below (T99.setTop (mkF m 212 #[.val (.int p1), .val (.int p2), .val (.long q3), .second, .val (.int p4), .val (.int p5), .val (.int (Int32.ofNat N)), .val (.int u0_), .val (.int u1_), .val (.int u2_), .val (.int u3_), .val (.int u4_), .val (.ref b18), .val (.int fr), .val (.int (-1 : Int32))] [(.int (4 : Int32)), (.int fr)])) _
      refine XS.icmpYes X99.here hx rfl (pc0 := 212) (pc' := 223) rfl (hb hby at_212) rfl (tlt hm212_0).2.2.1 (by decide) (by decide) ?_
      have qe4_ : e4_ = (-1 : Int32) := by rw [he4_]; simp only [hm212_0, if_true, if_false, reduceIte]
      rw [qe4_] at k
      exact k
    ·
      show Steps p.tables e below (T99.setTop (mkF m 212 #[.val (.int p1), .val (.int p2), .val (.long q3), .second, .val (.int p4), .val (.int p5), .val (.int (Int32.ofNat N)), .val (.int u0_), .val (.int u1_), .val (.int u2_), .val (.int u3_), .val (.int u4_), .val (.ref b18), .val (.int fr), .val (.int (-1 : Int32))] [(.int (4 : Int32)), (.int fr)])) _
      refine XS.icmpNo X99.here hx rfl (hb hby at_212) rfl (flt hm212_0).2.2.1 ?_
      show Steps p.tables e below (T99.setTop (mkF m 215 #[.val (.int p1), .val (.int p2), .val (.long q3), .second, .val (.int p4), .val (.int p5), .val (.int (Int32.ofNat N)), .val (.int u0_), .val (.int u1_), .val (.int u2_), .val (.int u3_), .val (.int u4_), .val (.ref b18), .val (.int fr), .val (.int (-1 : Int32))] [])) _
      refine XS.iload X99.here hx rfl (hb hby at_215) rfl ?_
      by_cases hm217_1 : u4_ = (0 : Int32)
      ·
        show Steps p.tables e below (T99.setTop (mkF m 217 #[.val (.int p1), .val (.int p2), .val (.long q3), .second, .val (.int p4), .val (.int p5), .val (.int (Int32.ofNat N)), .val (.int u0_), .val (.int u1_), .val (.int u2_), .val (.int u3_), .val (.int u4_), .val (.ref b18), .val (.int fr), .val (.int (-1 : Int32))] [(.int u4_)])) _
        refine XS.ifYes X99.here hx rfl (pc0 := 217) (pc' := 223) rfl (hb hby at_217) rfl ((if0 _ _).trans (teq hm217_1).1) (by decide) (by decide) ?_
        have qe4_ : e4_ = (-1 : Int32) := by rw [he4_]; simp only [hm212_0, hm217_1, if_true, if_false, reduceIte]
        rw [qe4_] at k
        exact k
      ·
        show Steps p.tables e below (T99.setTop (mkF m 217 #[.val (.int p1), .val (.int p2), .val (.long q3), .second, .val (.int p4), .val (.int p5), .val (.int (Int32.ofNat N)), .val (.int u0_), .val (.int u1_), .val (.int u2_), .val (.int u3_), .val (.int u4_), .val (.ref b18), .val (.int fr), .val (.int (-1 : Int32))] [(.int u4_)])) _
        refine XS.ifNo X99.here hx rfl (hb hby at_217) rfl ((if0 _ _).trans (feq hm217_1).1) ?_
        show Steps p.tables e below (T99.setTop (mkF m 220 #[.val (.int p1), .val (.int p2), .val (.long q3), .second, .val (.int p4), .val (.int p5), .val (.int (Int32.ofNat N)), .val (.int u0_), .val (.int u1_), .val (.int u2_), .val (.int u3_), .val (.int u4_), .val (.ref b18), .val (.int fr), .val (.int (-1 : Int32))] [])) _
        refine XS.iconst X99.here hx rfl (hb hby at_220) ?_
        show Steps p.tables e below (T99.setTop (mkF m 221 #[.val (.int p1), .val (.int p2), .val (.long q3), .second, .val (.int p4), .val (.int p5), .val (.int (Int32.ofNat N)), .val (.int u0_), .val (.int u1_), .val (.int u2_), .val (.int u3_), .val (.int u4_), .val (.ref b18), .val (.int fr), .val (.int (-1 : Int32))] [(.int (4 : Int32))])) _
        refine XS.istore X99.here hx rfl (hb hby at_221) rfl (l' := #[.val (.int p1), .val (.int p2), .val (.long q3), .second, .val (.int p4), .val (.int p5), .val (.int (Int32.ofNat N)), .val (.int u0_), .val (.int u1_), .val (.int u2_), .val (.int u3_), .val (.int u4_), .val (.ref b18), .val (.int fr), .val (.int (4 : Int32))]) rfl ?_
        have qe4_ : e4_ = (4 : Int32) := by rw [he4_]; simp only [hm212_0, hm217_1, if_true, if_false, reduceIte]
        rw [qe4_] at k
        exact k
  have J106 : ∀ t, Steps p.tables e below (T99.setTop (mkF m 223 #[.val (.int p1), .val (.int p2), .val (.long q3), .second, .val (.int p4), .val (.int p5), .val (.int (Int32.ofNat N)), .val (.int u0_), .val (.int u1_), .val (.int u2_), .val (.int u3_), .val (.int u4_), .val (.ref b18), .val (.int fr), .val (.int e4_)] [])) t → Steps p.tables e below (s₁.setTop (entryFrame m #[(.int p1), (.int p2), (.long q3), (.int p4), (.int p5)] maxLocals)) t := fun t k => J104 t (ps105 t k)
  have hI4 : own_Inv (fun j => F ≤ j ∧ g'_99 j ≠ 0) 4 e4_ := own_step (by decide) hF hfrF (by decide) hP4 hI5 he4_
  obtain ⟨e3_, he3_⟩ : ∃ z : Int32, z = (if (3 : Int32) < fr then e4_ else (if u3_ = (0 : Int32) then e4_ else (3 : Int32))) := ⟨_, rfl⟩
  have ps107 : ∀ t, Steps p.tables e below (T99.setTop (mkF m 237 #[.val (.int p1), .val (.int p2), .val (.long q3), .second, .val (.int p4), .val (.int p5), .val (.int (Int32.ofNat N)), .val (.int u0_), .val (.int u1_), .val (.int u2_), .val (.int u3_), .val (.int u4_), .val (.ref b18), .val (.int fr), .val (.int e3_)] [])) t → Steps p.tables e below (T99.setTop (mkF m 223 #[.val (.int p1), .val (.int p2), .val (.long q3), .second, .val (.int p4), .val (.int p5), .val (.int (Int32.ofNat N)), .val (.int u0_), .val (.int u1_), .val (.int u2_), .val (.int u3_), .val (.int u4_), .val (.ref b18), .val (.int fr), .val (.int e4_)] [])) t := by
    intro t k
    show Steps p.tables e below (T99.setTop (mkF m 223 #[.val (.int p1), .val (.int p2), .val (.long q3), .second, .val (.int p4), .val (.int p5), .val (.int (Int32.ofNat N)), .val (.int u0_), .val (.int u1_), .val (.int u2_), .val (.int u3_), .val (.int u4_), .val (.ref b18), .val (.int fr), .val (.int e4_)] [])) _
    refine XS.iload X99.here hx rfl (hb hby at_223) rfl ?_
    show Steps p.tables e below (T99.setTop (mkF m 225 #[.val (.int p1), .val (.int p2), .val (.long q3), .second, .val (.int p4), .val (.int p5), .val (.int (Int32.ofNat N)), .val (.int u0_), .val (.int u1_), .val (.int u2_), .val (.int u3_), .val (.int u4_), .val (.ref b18), .val (.int fr), .val (.int e4_)] [(.int fr)])) _
    refine XS.iconst X99.here hx rfl (hb hby at_225) ?_
    by_cases hm226_0 : (3 : Int32) < fr
    ·
      show Steps p.tables e below (T99.setTop (mkF m 226 #[.val (.int p1), .val (.int p2), .val (.long q3), .second, .val (.int p4), .val (.int p5), .val (.int (Int32.ofNat N)), .val (.int u0_), .val (.int u1_), .val (.int u2_), .val (.int u3_), .val (.int u4_), .val (.ref b18), .val (.int fr), .val (.int e4_)] [(.int (3 : Int32)), (.int fr)])) _
      refine XS.icmpYes X99.here hx rfl (pc0 := 226) (pc' := 237) rfl (hb hby at_226) rfl (tlt hm226_0).2.2.1 (by decide) (by decide) ?_
      have qe3_ : e3_ = e4_ := by rw [he3_]; simp only [hm226_0, if_true, if_false, reduceIte]
      rw [qe3_] at k
      exact k
    ·
      show Steps p.tables e below (T99.setTop (mkF m 226 #[.val (.int p1), .val (.int p2), .val (.long q3), .second, .val (.int p4), .val (.int p5), .val (.int (Int32.ofNat N)), .val (.int u0_), .val (.int u1_), .val (.int u2_), .val (.int u3_), .val (.int u4_), .val (.ref b18), .val (.int fr), .val (.int e4_)] [(.int (3 : Int32)), (.int fr)])) _
      refine XS.icmpNo X99.here hx rfl (hb hby at_226) rfl (flt hm226_0).2.2.1 ?_
      show Steps p.tables e below (T99.setTop (mkF m 229 #[.val (.int p1), .val (.int p2), .val (.long q3), .second, .val (.int p4), .val (.int p5), .val (.int (Int32.ofNat N)), .val (.int u0_), .val (.int u1_), .val (.int u2_), .val (.int u3_), .val (.int u4_), .val (.ref b18), .val (.int fr), .val (.int e4_)] [])) _
      refine XS.iload X99.here hx rfl (hb hby at_229) rfl ?_
      by_cases hm231_1 : u3_ = (0 : Int32)
      ·
        show Steps p.tables e below (T99.setTop (mkF m 231 #[.val (.int p1), .val (.int p2), .val (.long q3), .second, .val (.int p4), .val (.int p5), .val (.int (Int32.ofNat N)), .val (.int u0_), .val (.int u1_), .val (.int u2_), .val (.int u3_), .val (.int u4_), .val (.ref b18), .val (.int fr), .val (.int e4_)] [(.int u3_)])) _
        refine XS.ifYes X99.here hx rfl (pc0 := 231) (pc' := 237) rfl (hb hby at_231) rfl ((if0 _ _).trans (teq hm231_1).1) (by decide) (by decide) ?_
        have qe3_ : e3_ = e4_ := by rw [he3_]; simp only [hm226_0, hm231_1, if_true, if_false, reduceIte]
        rw [qe3_] at k
        exact k
      ·
        show Steps p.tables e below (T99.setTop (mkF m 231 #[.val (.int p1), .val (.int p2), .val (.long q3), .second, .val (.int p4), .val (.int p5), .val (.int (Int32.ofNat N)), .val (.int u0_), .val (.int u1_), .val (.int u2_), .val (.int u3_), .val (.int u4_), .val (.ref b18), .val (.int fr), .val (.int e4_)] [(.int u3_)])) _
        refine XS.ifNo X99.here hx rfl (hb hby at_231) rfl ((if0 _ _).trans (feq hm231_1).1) ?_
        show Steps p.tables e below (T99.setTop (mkF m 234 #[.val (.int p1), .val (.int p2), .val (.long q3), .second, .val (.int p4), .val (.int p5), .val (.int (Int32.ofNat N)), .val (.int u0_), .val (.int u1_), .val (.int u2_), .val (.int u3_), .val (.int u4_), .val (.ref b18), .val (.int fr), .val (.int e4_)] [])) _
        refine XS.iconst X99.here hx rfl (hb hby at_234) ?_
        show Steps p.tables e below (T99.setTop (mkF m 235 #[.val (.int p1), .val (.int p2), .val (.long q3), .second, .val (.int p4), .val (.int p5), .val (.int (Int32.ofNat N)), .val (.int u0_), .val (.int u1_), .val (.int u2_), .val (.int u3_), .val (.int u4_), .val (.ref b18), .val (.int fr), .val (.int e4_)] [(.int (3 : Int32))])) _
        refine XS.istore X99.here hx rfl (hb hby at_235) rfl (l' := #[.val (.int p1), .val (.int p2), .val (.long q3), .second, .val (.int p4), .val (.int p5), .val (.int (Int32.ofNat N)), .val (.int u0_), .val (.int u1_), .val (.int u2_), .val (.int u3_), .val (.int u4_), .val (.ref b18), .val (.int fr), .val (.int (3 : Int32))]) rfl ?_
        have qe3_ : e3_ = (3 : Int32) := by rw [he3_]; simp only [hm226_0, hm231_1, if_true, if_false, reduceIte]
        rw [qe3_] at k
        exact k
  have J108 : ∀ t, Steps p.tables e below (T99.setTop (mkF m 237 #[.val (.int p1), .val (.int p2), .val (.long q3), .second, .val (.int p4), .val (.int p5), .val (.int (Int32.ofNat N)), .val (.int u0_), .val (.int u1_), .val (.int u2_), .val (.int u3_), .val (.int u4_), .val (.ref b18), .val (.int fr), .val (.int e3_)] [])) t → Steps p.tables e below (s₁.setTop (entryFrame m #[(.int p1), (.int p2), (.long q3), (.int p4), (.int p5)] maxLocals)) t := fun t k => J106 t (ps107 t k)
  have hI3 : own_Inv (fun j => F ≤ j ∧ g'_99 j ≠ 0) 3 e3_ := own_step (by decide) hF hfrF (by decide) hP3 hI4 he3_
  obtain ⟨e2_, he2_⟩ : ∃ z : Int32, z = (if (2 : Int32) < fr then e3_ else (if u2_ = (0 : Int32) then e3_ else (2 : Int32))) := ⟨_, rfl⟩
  have ps109 : ∀ t, Steps p.tables e below (T99.setTop (mkF m 251 #[.val (.int p1), .val (.int p2), .val (.long q3), .second, .val (.int p4), .val (.int p5), .val (.int (Int32.ofNat N)), .val (.int u0_), .val (.int u1_), .val (.int u2_), .val (.int u3_), .val (.int u4_), .val (.ref b18), .val (.int fr), .val (.int e2_)] [])) t → Steps p.tables e below (T99.setTop (mkF m 237 #[.val (.int p1), .val (.int p2), .val (.long q3), .second, .val (.int p4), .val (.int p5), .val (.int (Int32.ofNat N)), .val (.int u0_), .val (.int u1_), .val (.int u2_), .val (.int u3_), .val (.int u4_), .val (.ref b18), .val (.int fr), .val (.int e3_)] [])) t := by
    intro t k
    show Steps p.tables e below (T99.setTop (mkF m 237 #[.val (.int p1), .val (.int p2), .val (.long q3), .second, .val (.int p4), .val (.int p5), .val (.int (Int32.ofNat N)), .val (.int u0_), .val (.int u1_), .val (.int u2_), .val (.int u3_), .val (.int u4_), .val (.ref b18), .val (.int fr), .val (.int e3_)] [])) _
    refine XS.iload X99.here hx rfl (hb hby at_237) rfl ?_
    show Steps p.tables e below (T99.setTop (mkF m 239 #[.val (.int p1), .val (.int p2), .val (.long q3), .second, .val (.int p4), .val (.int p5), .val (.int (Int32.ofNat N)), .val (.int u0_), .val (.int u1_), .val (.int u2_), .val (.int u3_), .val (.int u4_), .val (.ref b18), .val (.int fr), .val (.int e3_)] [(.int fr)])) _
    refine XS.iconst X99.here hx rfl (hb hby at_239) ?_
    by_cases hm240_0 : (2 : Int32) < fr
    ·
      show Steps p.tables e below (T99.setTop (mkF m 240 #[.val (.int p1), .val (.int p2), .val (.long q3), .second, .val (.int p4), .val (.int p5), .val (.int (Int32.ofNat N)), .val (.int u0_), .val (.int u1_), .val (.int u2_), .val (.int u3_), .val (.int u4_), .val (.ref b18), .val (.int fr), .val (.int e3_)] [(.int (2 : Int32)), (.int fr)])) _
      refine XS.icmpYes X99.here hx rfl (pc0 := 240) (pc' := 251) rfl (hb hby at_240) rfl (tlt hm240_0).2.2.1 (by decide) (by decide) ?_
      have qe2_ : e2_ = e3_ := by rw [he2_]; simp only [hm240_0, if_true, if_false, reduceIte]
      rw [qe2_] at k
      exact k
    ·
      show Steps p.tables e below (T99.setTop (mkF m 240 #[.val (.int p1), .val (.int p2), .val (.long q3), .second, .val (.int p4), .val (.int p5), .val (.int (Int32.ofNat N)), .val (.int u0_), .val (.int u1_), .val (.int u2_), .val (.int u3_), .val (.int u4_), .val (.ref b18), .val (.int fr), .val (.int e3_)] [(.int (2 : Int32)), (.int fr)])) _
      refine XS.icmpNo X99.here hx rfl (hb hby at_240) rfl (flt hm240_0).2.2.1 ?_
      show Steps p.tables e below (T99.setTop (mkF m 243 #[.val (.int p1), .val (.int p2), .val (.long q3), .second, .val (.int p4), .val (.int p5), .val (.int (Int32.ofNat N)), .val (.int u0_), .val (.int u1_), .val (.int u2_), .val (.int u3_), .val (.int u4_), .val (.ref b18), .val (.int fr), .val (.int e3_)] [])) _
      refine XS.iload X99.here hx rfl (hb hby at_243) rfl ?_
      by_cases hm245_1 : u2_ = (0 : Int32)
      ·
        show Steps p.tables e below (T99.setTop (mkF m 245 #[.val (.int p1), .val (.int p2), .val (.long q3), .second, .val (.int p4), .val (.int p5), .val (.int (Int32.ofNat N)), .val (.int u0_), .val (.int u1_), .val (.int u2_), .val (.int u3_), .val (.int u4_), .val (.ref b18), .val (.int fr), .val (.int e3_)] [(.int u2_)])) _
        refine XS.ifYes X99.here hx rfl (pc0 := 245) (pc' := 251) rfl (hb hby at_245) rfl ((if0 _ _).trans (teq hm245_1).1) (by decide) (by decide) ?_
        have qe2_ : e2_ = e3_ := by rw [he2_]; simp only [hm240_0, hm245_1, if_true, if_false, reduceIte]
        rw [qe2_] at k
        exact k
      ·
        show Steps p.tables e below (T99.setTop (mkF m 245 #[.val (.int p1), .val (.int p2), .val (.long q3), .second, .val (.int p4), .val (.int p5), .val (.int (Int32.ofNat N)), .val (.int u0_), .val (.int u1_), .val (.int u2_), .val (.int u3_), .val (.int u4_), .val (.ref b18), .val (.int fr), .val (.int e3_)] [(.int u2_)])) _
        refine XS.ifNo X99.here hx rfl (hb hby at_245) rfl ((if0 _ _).trans (feq hm245_1).1) ?_
        show Steps p.tables e below (T99.setTop (mkF m 248 #[.val (.int p1), .val (.int p2), .val (.long q3), .second, .val (.int p4), .val (.int p5), .val (.int (Int32.ofNat N)), .val (.int u0_), .val (.int u1_), .val (.int u2_), .val (.int u3_), .val (.int u4_), .val (.ref b18), .val (.int fr), .val (.int e3_)] [])) _
        refine XS.iconst X99.here hx rfl (hb hby at_248) ?_
        show Steps p.tables e below (T99.setTop (mkF m 249 #[.val (.int p1), .val (.int p2), .val (.long q3), .second, .val (.int p4), .val (.int p5), .val (.int (Int32.ofNat N)), .val (.int u0_), .val (.int u1_), .val (.int u2_), .val (.int u3_), .val (.int u4_), .val (.ref b18), .val (.int fr), .val (.int e3_)] [(.int (2 : Int32))])) _
        refine XS.istore X99.here hx rfl (hb hby at_249) rfl (l' := #[.val (.int p1), .val (.int p2), .val (.long q3), .second, .val (.int p4), .val (.int p5), .val (.int (Int32.ofNat N)), .val (.int u0_), .val (.int u1_), .val (.int u2_), .val (.int u3_), .val (.int u4_), .val (.ref b18), .val (.int fr), .val (.int (2 : Int32))]) rfl ?_
        have qe2_ : e2_ = (2 : Int32) := by rw [he2_]; simp only [hm240_0, hm245_1, if_true, if_false, reduceIte]
        rw [qe2_] at k
        exact k
  have J110 : ∀ t, Steps p.tables e below (T99.setTop (mkF m 251 #[.val (.int p1), .val (.int p2), .val (.long q3), .second, .val (.int p4), .val (.int p5), .val (.int (Int32.ofNat N)), .val (.int u0_), .val (.int u1_), .val (.int u2_), .val (.int u3_), .val (.int u4_), .val (.ref b18), .val (.int fr), .val (.int e2_)] [])) t → Steps p.tables e below (s₁.setTop (entryFrame m #[(.int p1), (.int p2), (.long q3), (.int p4), (.int p5)] maxLocals)) t := fun t k => J108 t (ps109 t k)
  have hI2 : own_Inv (fun j => F ≤ j ∧ g'_99 j ≠ 0) 2 e2_ := own_step (by decide) hF hfrF (by decide) hP2 hI3 he2_
  obtain ⟨e1_, he1_⟩ : ∃ z : Int32, z = (if (1 : Int32) < fr then e2_ else (if u1_ = (0 : Int32) then e2_ else (1 : Int32))) := ⟨_, rfl⟩
  have ps111 : ∀ t, Steps p.tables e below (T99.setTop (mkF m 265 #[.val (.int p1), .val (.int p2), .val (.long q3), .second, .val (.int p4), .val (.int p5), .val (.int (Int32.ofNat N)), .val (.int u0_), .val (.int u1_), .val (.int u2_), .val (.int u3_), .val (.int u4_), .val (.ref b18), .val (.int fr), .val (.int e1_)] [])) t → Steps p.tables e below (T99.setTop (mkF m 251 #[.val (.int p1), .val (.int p2), .val (.long q3), .second, .val (.int p4), .val (.int p5), .val (.int (Int32.ofNat N)), .val (.int u0_), .val (.int u1_), .val (.int u2_), .val (.int u3_), .val (.int u4_), .val (.ref b18), .val (.int fr), .val (.int e2_)] [])) t := by
    intro t k
    show Steps p.tables e below (T99.setTop (mkF m 251 #[.val (.int p1), .val (.int p2), .val (.long q3), .second, .val (.int p4), .val (.int p5), .val (.int (Int32.ofNat N)), .val (.int u0_), .val (.int u1_), .val (.int u2_), .val (.int u3_), .val (.int u4_), .val (.ref b18), .val (.int fr), .val (.int e2_)] [])) _
    refine XS.iload X99.here hx rfl (hb hby at_251) rfl ?_
    show Steps p.tables e below (T99.setTop (mkF m 253 #[.val (.int p1), .val (.int p2), .val (.long q3), .second, .val (.int p4), .val (.int p5), .val (.int (Int32.ofNat N)), .val (.int u0_), .val (.int u1_), .val (.int u2_), .val (.int u3_), .val (.int u4_), .val (.ref b18), .val (.int fr), .val (.int e2_)] [(.int fr)])) _
    refine XS.iconst X99.here hx rfl (hb hby at_253) ?_
    by_cases hm254_0 : (1 : Int32) < fr
    ·
      show Steps p.tables e below (T99.setTop (mkF m 254 #[.val (.int p1), .val (.int p2), .val (.long q3), .second, .val (.int p4), .val (.int p5), .val (.int (Int32.ofNat N)), .val (.int u0_), .val (.int u1_), .val (.int u2_), .val (.int u3_), .val (.int u4_), .val (.ref b18), .val (.int fr), .val (.int e2_)] [(.int (1 : Int32)), (.int fr)])) _
      refine XS.icmpYes X99.here hx rfl (pc0 := 254) (pc' := 265) rfl (hb hby at_254) rfl (tlt hm254_0).2.2.1 (by decide) (by decide) ?_
      have qe1_ : e1_ = e2_ := by rw [he1_]; simp only [hm254_0, if_true, if_false, reduceIte]
      rw [qe1_] at k
      exact k
    ·
      show Steps p.tables e below (T99.setTop (mkF m 254 #[.val (.int p1), .val (.int p2), .val (.long q3), .second, .val (.int p4), .val (.int p5), .val (.int (Int32.ofNat N)), .val (.int u0_), .val (.int u1_), .val (.int u2_), .val (.int u3_), .val (.int u4_), .val (.ref b18), .val (.int fr), .val (.int e2_)] [(.int (1 : Int32)), (.int fr)])) _
      refine XS.icmpNo X99.here hx rfl (hb hby at_254) rfl (flt hm254_0).2.2.1 ?_
      show Steps p.tables e below (T99.setTop (mkF m 257 #[.val (.int p1), .val (.int p2), .val (.long q3), .second, .val (.int p4), .val (.int p5), .val (.int (Int32.ofNat N)), .val (.int u0_), .val (.int u1_), .val (.int u2_), .val (.int u3_), .val (.int u4_), .val (.ref b18), .val (.int fr), .val (.int e2_)] [])) _
      refine XS.iload X99.here hx rfl (hb hby at_257) rfl ?_
      by_cases hm259_1 : u1_ = (0 : Int32)
      ·
        show Steps p.tables e below (T99.setTop (mkF m 259 #[.val (.int p1), .val (.int p2), .val (.long q3), .second, .val (.int p4), .val (.int p5), .val (.int (Int32.ofNat N)), .val (.int u0_), .val (.int u1_), .val (.int u2_), .val (.int u3_), .val (.int u4_), .val (.ref b18), .val (.int fr), .val (.int e2_)] [(.int u1_)])) _
        refine XS.ifYes X99.here hx rfl (pc0 := 259) (pc' := 265) rfl (hb hby at_259) rfl ((if0 _ _).trans (teq hm259_1).1) (by decide) (by decide) ?_
        have qe1_ : e1_ = e2_ := by rw [he1_]; simp only [hm254_0, hm259_1, if_true, if_false, reduceIte]
        rw [qe1_] at k
        exact k
      ·
        show Steps p.tables e below (T99.setTop (mkF m 259 #[.val (.int p1), .val (.int p2), .val (.long q3), .second, .val (.int p4), .val (.int p5), .val (.int (Int32.ofNat N)), .val (.int u0_), .val (.int u1_), .val (.int u2_), .val (.int u3_), .val (.int u4_), .val (.ref b18), .val (.int fr), .val (.int e2_)] [(.int u1_)])) _
        refine XS.ifNo X99.here hx rfl (hb hby at_259) rfl ((if0 _ _).trans (feq hm259_1).1) ?_
        show Steps p.tables e below (T99.setTop (mkF m 262 #[.val (.int p1), .val (.int p2), .val (.long q3), .second, .val (.int p4), .val (.int p5), .val (.int (Int32.ofNat N)), .val (.int u0_), .val (.int u1_), .val (.int u2_), .val (.int u3_), .val (.int u4_), .val (.ref b18), .val (.int fr), .val (.int e2_)] [])) _
        refine XS.iconst X99.here hx rfl (hb hby at_262) ?_
        show Steps p.tables e below (T99.setTop (mkF m 263 #[.val (.int p1), .val (.int p2), .val (.long q3), .second, .val (.int p4), .val (.int p5), .val (.int (Int32.ofNat N)), .val (.int u0_), .val (.int u1_), .val (.int u2_), .val (.int u3_), .val (.int u4_), .val (.ref b18), .val (.int fr), .val (.int e2_)] [(.int (1 : Int32))])) _
        refine XS.istore X99.here hx rfl (hb hby at_263) rfl (l' := #[.val (.int p1), .val (.int p2), .val (.long q3), .second, .val (.int p4), .val (.int p5), .val (.int (Int32.ofNat N)), .val (.int u0_), .val (.int u1_), .val (.int u2_), .val (.int u3_), .val (.int u4_), .val (.ref b18), .val (.int fr), .val (.int (1 : Int32))]) rfl ?_
        have qe1_ : e1_ = (1 : Int32) := by rw [he1_]; simp only [hm254_0, hm259_1, if_true, if_false, reduceIte]
        rw [qe1_] at k
        exact k
  have J112 : ∀ t, Steps p.tables e below (T99.setTop (mkF m 265 #[.val (.int p1), .val (.int p2), .val (.long q3), .second, .val (.int p4), .val (.int p5), .val (.int (Int32.ofNat N)), .val (.int u0_), .val (.int u1_), .val (.int u2_), .val (.int u3_), .val (.int u4_), .val (.ref b18), .val (.int fr), .val (.int e1_)] [])) t → Steps p.tables e below (s₁.setTop (entryFrame m #[(.int p1), (.int p2), (.long q3), (.int p4), (.int p5)] maxLocals)) t := fun t k => J110 t (ps111 t k)
  have hI1 : own_Inv (fun j => F ≤ j ∧ g'_99 j ≠ 0) 1 e1_ := own_step (by decide) hF hfrF (by decide) hP1 hI2 he1_
  obtain ⟨e0_, he0_⟩ : ∃ z : Int32, z = (if (0 : Int32) < fr then e1_ else (if u0_ = (0 : Int32) then e1_ else (0 : Int32))) := ⟨_, rfl⟩
  have ps113 : ∀ t, Steps p.tables e below (T99.setTop (mkF m 278 #[.val (.int p1), .val (.int p2), .val (.long q3), .second, .val (.int p4), .val (.int p5), .val (.int (Int32.ofNat N)), .val (.int u0_), .val (.int u1_), .val (.int u2_), .val (.int u3_), .val (.int u4_), .val (.ref b18), .val (.int fr), .val (.int e0_)] [])) t → Steps p.tables e below (T99.setTop (mkF m 265 #[.val (.int p1), .val (.int p2), .val (.long q3), .second, .val (.int p4), .val (.int p5), .val (.int (Int32.ofNat N)), .val (.int u0_), .val (.int u1_), .val (.int u2_), .val (.int u3_), .val (.int u4_), .val (.ref b18), .val (.int fr), .val (.int e1_)] [])) t := by
    intro t k
    show Steps p.tables e below (T99.setTop (mkF m 265 #[.val (.int p1), .val (.int p2), .val (.long q3), .second, .val (.int p4), .val (.int p5), .val (.int (Int32.ofNat N)), .val (.int u0_), .val (.int u1_), .val (.int u2_), .val (.int u3_), .val (.int u4_), .val (.ref b18), .val (.int fr), .val (.int e1_)] [])) _
    refine XS.iload X99.here hx rfl (hb hby at_265) rfl ?_
    by_cases hm267_0 : (0 : Int32) < fr
    ·
      show Steps p.tables e below (T99.setTop (mkF m 267 #[.val (.int p1), .val (.int p2), .val (.long q3), .second, .val (.int p4), .val (.int p5), .val (.int (Int32.ofNat N)), .val (.int u0_), .val (.int u1_), .val (.int u2_), .val (.int u3_), .val (.int u4_), .val (.ref b18), .val (.int fr), .val (.int e1_)] [(.int fr)])) _
      refine XS.ifYes X99.here hx rfl (pc0 := 267) (pc' := 278) rfl (hb hby at_267) rfl ((if0 _ _).trans (tlt hm267_0).2.2.1) (by decide) (by decide) ?_
      have qe0_ : e0_ = e1_ := by rw [he0_]; simp only [hm267_0, if_true, if_false, reduceIte]
      rw [qe0_] at k
      exact k
    ·
      show Steps p.tables e below (T99.setTop (mkF m 267 #[.val (.int p1), .val (.int p2), .val (.long q3), .second, .val (.int p4), .val (.int p5), .val (.int (Int32.ofNat N)), .val (.int u0_), .val (.int u1_), .val (.int u2_), .val (.int u3_), .val (.int u4_), .val (.ref b18), .val (.int fr), .val (.int e1_)] [(.int fr)])) _
      refine XS.ifNo X99.here hx rfl (hb hby at_267) rfl ((if0 _ _).trans (flt hm267_0).2.2.1) ?_
      show Steps p.tables e below (T99.setTop (mkF m 270 #[.val (.int p1), .val (.int p2), .val (.long q3), .second, .val (.int p4), .val (.int p5), .val (.int (Int32.ofNat N)), .val (.int u0_), .val (.int u1_), .val (.int u2_), .val (.int u3_), .val (.int u4_), .val (.ref b18), .val (.int fr), .val (.int e1_)] [])) _
      refine XS.iload X99.here hx rfl (hb hby at_270) rfl ?_
      by_cases hm272_1 : u0_ = (0 : Int32)
      ·
        show Steps p.tables e below (T99.setTop (mkF m 272 #[.val (.int p1), .val (.int p2), .val (.long q3), .second, .val (.int p4), .val (.int p5), .val (.int (Int32.ofNat N)), .val (.int u0_), .val (.int u1_), .val (.int u2_), .val (.int u3_), .val (.int u4_), .val (.ref b18), .val (.int fr), .val (.int e1_)] [(.int u0_)])) _
        refine XS.ifYes X99.here hx rfl (pc0 := 272) (pc' := 278) rfl (hb hby at_272) rfl ((if0 _ _).trans (teq hm272_1).1) (by decide) (by decide) ?_
        have qe0_ : e0_ = e1_ := by rw [he0_]; simp only [hm267_0, hm272_1, if_true, if_false, reduceIte]
        rw [qe0_] at k
        exact k
      ·
        show Steps p.tables e below (T99.setTop (mkF m 272 #[.val (.int p1), .val (.int p2), .val (.long q3), .second, .val (.int p4), .val (.int p5), .val (.int (Int32.ofNat N)), .val (.int u0_), .val (.int u1_), .val (.int u2_), .val (.int u3_), .val (.int u4_), .val (.ref b18), .val (.int fr), .val (.int e1_)] [(.int u0_)])) _
        refine XS.ifNo X99.here hx rfl (hb hby at_272) rfl ((if0 _ _).trans (feq hm272_1).1) ?_
        show Steps p.tables e below (T99.setTop (mkF m 275 #[.val (.int p1), .val (.int p2), .val (.long q3), .second, .val (.int p4), .val (.int p5), .val (.int (Int32.ofNat N)), .val (.int u0_), .val (.int u1_), .val (.int u2_), .val (.int u3_), .val (.int u4_), .val (.ref b18), .val (.int fr), .val (.int e1_)] [])) _
        refine XS.iconst X99.here hx rfl (hb hby at_275) ?_
        show Steps p.tables e below (T99.setTop (mkF m 276 #[.val (.int p1), .val (.int p2), .val (.long q3), .second, .val (.int p4), .val (.int p5), .val (.int (Int32.ofNat N)), .val (.int u0_), .val (.int u1_), .val (.int u2_), .val (.int u3_), .val (.int u4_), .val (.ref b18), .val (.int fr), .val (.int e1_)] [(.int (0 : Int32))])) _
        refine XS.istore X99.here hx rfl (hb hby at_276) rfl (l' := #[.val (.int p1), .val (.int p2), .val (.long q3), .second, .val (.int p4), .val (.int p5), .val (.int (Int32.ofNat N)), .val (.int u0_), .val (.int u1_), .val (.int u2_), .val (.int u3_), .val (.int u4_), .val (.ref b18), .val (.int fr), .val (.int (0 : Int32))]) rfl ?_
        have qe0_ : e0_ = (0 : Int32) := by rw [he0_]; simp only [hm267_0, hm272_1, if_true, if_false, reduceIte]
        rw [qe0_] at k
        exact k
  have J114 : ∀ t, Steps p.tables e below (T99.setTop (mkF m 278 #[.val (.int p1), .val (.int p2), .val (.long q3), .second, .val (.int p4), .val (.int p5), .val (.int (Int32.ofNat N)), .val (.int u0_), .val (.int u1_), .val (.int u2_), .val (.int u3_), .val (.int u4_), .val (.ref b18), .val (.int fr), .val (.int e0_)] [])) t → Steps p.tables e below (s₁.setTop (entryFrame m #[(.int p1), (.int p2), (.long q3), (.int p4), (.int p5)] maxLocals)) t := fun t k => J112 t (ps113 t k)
  have hI0 : own_Inv (fun j => F ≤ j ∧ g'_99 j ≠ 0) 0 e0_ := own_step (by decide) hF hfrF (by decide) hP0 hI1 he0_
  have J115 : ∀ t, Steps p.tables e below (T99.setTop (mkF m 282 #[.val (.int p1), .val (.int p2), .val (.long q3), .second, .val (.int p4), .val (.int p5), .val (.int (Int32.ofNat N)), .val (.int u0_), .val (.int u1_), .val (.int u2_), .val (.int u3_), .val (.int u4_), .val (.ref b18), .val (.int fr), .val (.int e0_)] [(.int fr), (.ref b18)])) t → Steps p.tables e below (s₁.setTop (entryFrame m #[(.int p1), (.int p2), (.long q3), (.int p4), (.int p5)] maxLocals)) t := fun t k => J114 t (by
      show Steps p.tables e below (T99.setTop (mkF m 278 #[.val (.int p1), .val (.int p2), .val (.long q3), .second, .val (.int p4), .val (.int p5), .val (.int (Int32.ofNat N)), .val (.int u0_), .val (.int u1_), .val (.int u2_), .val (.int u3_), .val (.int u4_), .val (.ref b18), .val (.int fr), .val (.int e0_)] [])) _
      refine XS.aload X99.here hx rfl (hb hby at_278) rfl rfl ?_
      show Steps p.tables e below (T99.setTop (mkF m 280 #[.val (.int p1), .val (.int p2), .val (.long q3), .second, .val (.int p4), .val (.int p5), .val (.int (Int32.ofNat N)), .val (.int u0_), .val (.int u1_), .val (.int u2_), .val (.int u3_), .val (.int u4_), .val (.ref b18), .val (.int fr), .val (.int e0_)] [(.ref b18)])) _
      refine XS.iload X99.here hx rfl (hb hby at_280) rfl ?_
      exact k)
  subst hfrF
  obtain ⟨_, _, ⟨T116, L116, k116, n116⟩, -, X116, ⟨Lc116, hQ116, l116, y116, z116⟩, st116⟩ := Jvm.LawKit.callS X99 hx (y := (⟨"com/example/quantiscope/quantiscope/threshold/Bins", "first", "([JI)I"⟩ : MethodName)) hown (mvT hZ (hw _ (List.mem_of_getElem? (i := 2) rfl))) (mvT hZ (hw _ (List.mem_of_getElem? (i := 3) rfl))) (mvT hZ (hw _ (List.mem_of_getElem? (i := 4) rfl))) (mvT hZ (hw _ (List.mem_of_getElem? (i := 5) rfl))) (by decide) (backOf (W := 0) (rm1 l Z a0 hw [] b18 cl'_99 N g'_99 F h99 n0 Z101 p99_1 hN p99_2 hF) hZ (hw _ (List.mem_of_getElem? (i := 5) rfl)) (hw _ (List.mem_of_getElem? (i := 4) rfl)) (by decide) (by decide)) (g := (mkF m 282 #[.val (.int p1), .val (.int p2), .val (.long q3), .second, .val (.int p4), .val (.int p5), .val (.int (Int32.ofNat N)), .val (.int u0_), .val (.int u1_), .val (.int u2_), .val (.int u3_), .val (.int u4_), .val (.ref b18), .val (.int (Int32.ofNat F)), .val (.int e0_)] [(.int (Int32.ofNat F)), (.ref b18)])) rfl (by rw [hml]; rfl) (argsL := [(.ref b18), (.int (Int32.ofNat F))]) (rest := []) (lenOf pd_1 rfl) rfl (by show 2 * 0 + _ ≤ _; exact Nat.le_of_eq rfl) (hb hby at_282) (fun _ _ => ⟨rfl, e99, (by decide : 1 + 0 ≤ _), (by decide : 5 + 0 ≤ _)⟩)
  dsimp only [Pt.U, Pt.locs, Pt.cells, Pt.slots] at X116 l116 y116 z116 st116 hQ116
  subst l116 y116 z116
  obtain ⟨r_116, rfl, Nq116, e116, p116_1⟩ := hQ116
  have N117 := Fr.app N99 Nq116
  have J118 : ∀ t, Steps p.tables e below (T116.setTop (mkF m 285 #[.val (.int p1), .val (.int p2), .val (.long q3), .second, .val (.int p4), .val (.int p5), .val (.int (Int32.ofNat N)), .val (.int u0_), .val (.int u1_), .val (.int u2_), .val (.int u3_), .val (.int u4_), .val (.ref b18), .val (.int (Int32.ofNat F)), .val (.int e0_)] [(.int r_116)])) t → Steps p.tables e below (s₁.setTop (entryFrame m #[(.int p1), (.int p2), (.long q3), (.int p4), (.int p5)] maxLocals)) t := fun t k => J115 t (st116 t k)
  have J119 : ∀ t, Steps p.tables e below (T116.setTop (mkF m 295 #[.val (.int p1), .val (.int p2), .val (.long q3), .second, .val (.int p4), .val (.int p5), .val (.int (Int32.ofNat N)), .val (.int u0_), .val (.int u1_), .val (.int u2_), .val (.int u3_), .val (.int u4_), .val (.ref b18), .val (.int (Int32.ofNat F)), .val (.int e0_)] [(.int (1 : Int32))])) t → Steps p.tables e below (s₁.setTop (entryFrame m #[(.int p1), (.int p2), (.long q3), (.int p4), (.int p5)] maxLocals)) t := fun t k => J118 t (by
      show Steps p.tables e below (T116.setTop (mkF m 285 #[.val (.int p1), .val (.int p2), .val (.long q3), .second, .val (.int p4), .val (.int p5), .val (.int (Int32.ofNat N)), .val (.int u0_), .val (.int u1_), .val (.int u2_), .val (.int u3_), .val (.int u4_), .val (.ref b18), .val (.int (Int32.ofNat F)), .val (.int e0_)] [(.int r_116)])) _
      refine XS.iload X116.here hx rfl (hb hby at_285) rfl ?_
      show Steps p.tables e below (T116.setTop (mkF m 287 #[.val (.int p1), .val (.int p2), .val (.long q3), .second, .val (.int p4), .val (.int p5), .val (.int (Int32.ofNat N)), .val (.int u0_), .val (.int u1_), .val (.int u2_), .val (.int u3_), .val (.int u4_), .val (.ref b18), .val (.int (Int32.ofNat F)), .val (.int e0_)] [(.int e0_), (.int r_116)])) _
      refine XS.icmpNo X116.here hx rfl (hb hby at_287) rfl (teq (own_final hN hf p116_1 hI0)).2 ?_
      show Steps p.tables e below (T116.setTop (mkF m 290 #[.val (.int p1), .val (.int p2), .val (.long q3), .second, .val (.int p4), .val (.int p5), .val (.int (Int32.ofNat N)), .val (.int u0_), .val (.int u1_), .val (.int u2_), .val (.int u3_), .val (.int u4_), .val (.ref b18), .val (.int (Int32.ofNat F)), .val (.int e0_)] [])) _
      refine XS.iconst X116.here hx rfl (hb hby at_290) ?_
      show Steps p.tables e below (T116.setTop (mkF m 291 #[.val (.int p1), .val (.int p2), .val (.long q3), .second, .val (.int p4), .val (.int p5), .val (.int (Int32.ofNat N)), .val (.int u0_), .val (.int u1_), .val (.int u2_), .val (.int u3_), .val (.int u4_), .val (.ref b18), .val (.int (Int32.ofNat F)), .val (.int e0_)] [(.int (1 : Int32))])) _
      refine XS.goto X116.here hx rfl (pc0 := 291) (pc' := 295) rfl (hb hby at_291) (by decide) (by decide) ?_
      exact k)
  obtain ⟨fs, hr, hrun, hended, hW, hsame⟩ := X116.leave (v := some (.int (1 : Int32))) (fun h => by rw [Bd.returns] at h; cases h)
  refine ⟨_, _, J119 _ ?_, hrun, hended, _, _, rfl, ?_, ⟨_, rfl⟩, hW, hsame.mono (by decide) (by decide)⟩
  · show Steps p.tables e below (T116.setTop (mkF m 295 #[.val (.int p1), .val (.int p2), .val (.long q3), .second, .val (.int p4), .val (.int p5), .val (.int (Int32.ofNat N)), .val (.int u0_), .val (.int u1_), .val (.int u2_), .val (.int u3_), .val (.int u4_), .val (.ref b18), .val (.int (Int32.ofNat F)), .val (.int e0_)] [(.int (1 : Int32))])) _
    exact retN X116 hx (t := .boolean) Bd.returns (by simp) (hb hby at_295) hr
  · show Q0 Z p1 p2 q3 p4 p5 h0 n0 _ T116.heap _
    rw [e116]
    exact ⟨rfl, N117⟩
set_option maxRecDepth 65536 in
set_option maxHeartbeats 40000000 in
theorem comes_1 {Post : Tables → Env → Array Value → State → Outcome → State → Prop} (hpost : ∀ tb e args s v u, (limb_1_1.after args s (.returned v) u = true ∧ limb_1_2.after args s (.returned v) u = true ∧ True) → FrameEnd s (.returned v) u (Jvm.fieldLocs frame_1_writes args s ++ Jvm.arrayLocs frame_1_arrays args s ++ Jvm.staticLocs frame_1_statics s) 16 128 → Post tb e args s (.returned v) u) :
    ArmFor flags0 classFile x code maxLocals ret World_1 tables_1 room_1 Calls_1 rest_1 Pre_1 Post := by
  intro l hfl _ _ p e ha hc hk s m args below hf hA hF happ hP
  obtain ⟨hcalls, hrest, hpre⟩ := hP
  obtain ⟨-, -, -, hnamed, -, -, -, hat⟩ := (Spec.applies_iff hf).mp happ
  obtain ⟨hg, hn⟩ := and_e (Cond.before_iff.mp (show (Jvm.Cond.and given_1 narrow_1).before args s = true from hpre))
  obtain ⟨hcount, hg0⟩ := and_e hg
  obtain ⟨ga0, hg1⟩ := and_e hg0
  obtain ⟨ga1, hg2⟩ := and_e hg1
  obtain ⟨ga2, hg3⟩ := and_e hg2
  obtain ⟨ga3, hg4⟩ := and_e hg3
  obtain ⟨w0, w1, w2, w3, w4, rfl⟩ : ∃ w0 w1 w2 w3 w4 : Value, args = #[w0, w1, w2, w3, w4] := by
    have hs : args.size = 5 := by simpa [Cond.value, given_1] using hcount
    obtain ⟨L⟩ := args
    match L, hs with
    | [w0, w1, w2, w3, w4], _ => exact ⟨w0, w1, w2, w3, w4, rfl⟩
  have hw := fun d (hd : d ∈ tables_1) => atoms_spec (ws := Jvm.Cond.code x code maxLocals ret :: tables_1) hat d (List.mem_cons_of_mem _ hd)
  have hfit : Fit s := fun {y c} hc i hi => by
    obtain ⟨ha, rfl⟩ := Array.getElem?_eq_some_iff.mp hc
    have q := List.all_eq_true.mp ((Array.all_eq_true_iff_forall_mem.mp hF) _ (Array.getElem_mem ha)) i (List.mem_range.mpr hi)
    simpa [Array.getElem?_eq_getElem hi] using q
  obtain ⟨i0, ei0⟩ := is_v ga0
  obtain rfl : w0 = (.int i0) := Option.some.inj ei0
  obtain ⟨i1, ei1⟩ := is_v ga1
  obtain rfl : w1 = (.int i1) := Option.some.inj ei1
  obtain ⟨i2, ei2⟩ := isL_v ga2
  obtain rfl : w2 = (.long i2) := Option.some.inj ei2
  obtain ⟨i3, ei3⟩ := is_v ga3
  obtain rfl : w3 = (.int i3) := Option.some.inj ei3
  obtain ⟨i4, ei4⟩ := is_v hg4
  obtain rfl : w4 = (.int i4) := Option.some.inj ei4
  obtain ⟨n, o, h1, h2, h3, _, L, rfl, ⟨rfl, N⟩, hq⟩ := rm0 l s _ hw tables_1 i0 i1 i2 i3 i4 s.heap s.heap.size (Nat.le_refl _)  p e ha hc hk s m _ below hf ((Spec.applies_iff_loose hf).mp happ).1 ⟨rfl, State.Warmed39.refl s, rfl⟩ trivial
  refine ⟨n, _, h1, h2, h3, hpost _ _ _ _ _ _ ⟨Cond.after_iff.mpr rfl, Cond.after_iff.mpr (eq_i res_at (Term.int_eval (1)) rfl), trivial⟩ ⟨hq.1, hq.2.1, (hq.2.2.sift fun y hy => Or.inr (N y hy)).mono (by decide) (by decide)⟩⟩
theorem main_1_1 : Claimed_1_1 := comes_1 fun _ _ _ _ _ _ h hF => ⟨h.1, hF⟩
theorem main_1_2 : Claimed_1_2 := comes_1 fun _ _ _ _ _ _ h hF => ⟨h.2.1, hF⟩
end Jvm.Pilot.@@N@@
namespace Jvm.Pilot.@@N@@
open Jvm Jvm.ClassFile Sem Op Lib Jvm.Free Jvm.Stand Jvm.Pilot.@@N@@.Jvm.D
/-! MADE BY PROGRAM (witnessworld.py) out of the Statement's table words and the real class files: 11 classes; the members and pool entries that the words name. The judged class is class 1, her method 2. -/
namespace start1
open Jvm.ClassFile
def u (s : String) : CpInfo := .utf8 (stringToUtf16 s)
/-- a pool by its gaps: so many unusable entries, then the entry; so many at the end -/
def gap : Nat → List CpInfo → List CpInfo
  | 0, r => r
  | n + 1, r => .unusable :: gap n r
def poolList (es : List (Nat × CpInfo)) (last : Nat) : List CpInfo := es.foldr (fun e r => gap e.1 (e.2 :: r)) (gap last [])
def pool (es : List (Nat × CpInfo)) (last : Nat) : Array CpInfo := ⟨poolList es last⟩
def fileOf (pool : Array CpInfo) (this : Nat) (attrs : Array Attribute := #[]) (ms : Array MethodInfo := #[]) (fl : Nat := 33) (sup : Nat := 0) (ifs : Array Nat := #[]) (fds : Array FieldInfo := #[]) : ClassFile where
  minorVersion := 0
  majorVersion := 65
  constantPool := pool
  accessFlags := fl
  thisClass := this
  superClass := sup
  interfaces := ifs
  fields := fds
  methods := ms
  attributes := attrs
def plain (name : String) (sup : Option ClassId) : Class where
  name := name
  kind := .ordinary
  loader := none
  accessFlags := 33
  super := sup
  interfaces := #[]
  cf := none
  fields := #[]
  methods := #[]
  instanceTypes := #[]
  staticTypes := #[]
  resolved := #[]
  callSites := []
  init := .initialized
  statics := none
  mirror := none

def pool0 : Array CpInfo := pool [(5, u "<init>"), (0, u "()V"), (1, .class_ 10), (1, u "java/lang/Object")] 113

def k0m0 : Method := { name := "<init>", desc := "()V", sig := { parameters := [], returnType := none }, accessFlags := 1, code := none }
/-- java/lang/Object -/
def k0 : Class := { plain "java/lang/Object" none with
  accessFlags := 33
  interfaces := #[]
  cf := some (fileOf pool0 8 #[] #[{ accessFlags := 1, nameIndex := 5, descriptorIndex := 6, attributes := #[] }] 33 0 #[] #[])
  fields := #[]
  methods := #[k0m0]
  instanceTypes := #[]
  staticTypes := #[]
  resolved := Array.replicate 124 none
  statics := none }

def pool1 : Array CpInfo := pool [(2, .class_ 4), (1, u "java/lang/Object"), (0, u "<init>"), (0, u "()V"), (2, .long 9223372036854775807), (1, .integer 2147483647), (0, .methodref 13 14), (0, .class_ 15), (0, .nameAndType 16 17), (0, u "com/example/quantiscope/quantiscope/threshold/BinsFirstPinLaw"), (0, u "val"), (0, u "(JI)J"), (0, .methodref 19 20), (0, .class_ 21), (0, .nameAndType 22 23), (0, u "com/example/quantiscope/quantiscope/threshold/Bins"), (0, u "first"), (0, u "([JI)I"), (3, u "law"), (0, u "(IIJII)Z")] 4

def k1m0 : Method := { name := "<init>", desc := "()V", sig := { parameters := [], returnType := none }, accessFlags := 1, code := none }
def k1c1 : Code := { maxStack := 4, maxLocals := 5, code := method_2_code, exceptionTable := #[], attributes := #[] }
def k1m1 : Method := { name := "val", desc := "(JI)J", sig := { parameters := [.long, .int], returnType := some .long }, accessFlags := 10, code := some k1c1 }
def k1c2 : Code := { maxStack := 5, maxLocals := 15, code := code, exceptionTable := #[], attributes := #[] }
def k1m2 : Method := { name := "law", desc := "(IIJII)Z", sig := { parameters := [.int, .int, .long, .int, .int], returnType := some .boolean }, accessFlags := 9, code := some k1c2 }
/-- com/example/quantiscope/quantiscope/threshold/BinsFirstPinLaw -/
def k1 : Class := { plain "com/example/quantiscope/quantiscope/threshold/BinsFirstPinLaw" (some 0) with
  accessFlags := 49
  interfaces := #[]
  cf := some (fileOf pool1 13 #[] #[{ accessFlags := 1, nameIndex := 5, descriptorIndex := 6, attributes := #[] }, { accessFlags := 10, nameIndex := 16, descriptorIndex := 17, attributes := #[] }, { accessFlags := 9, nameIndex := 27, descriptorIndex := 28, attributes := #[] }] 49 2 #[] #[])
  fields := #[]
  methods := #[k1m0, k1m1, k1m2]
  instanceTypes := #[]
  staticTypes := #[]
  resolved := Array.replicate 33 none
  statics := none }

def pool2 : Array CpInfo := pool [(2, .class_ 4), (1, u "java/lang/Object"), (3, .class_ 10), (1, u "com/example/quantiscope/quantiscope/threshold/Bins"), (0, u "counts"), (0, u "[J"), (2, u "sums"), (2, u "squares"), (0, u "[D"), (2, u "first"), (0, u "([JI)I")] 59

def k2c0 : Code := { maxStack := 4, maxLocals := 3, code := prog_63_method_3_code, exceptionTable := #[], attributes := #[] }
def k2m0 : Method := { name := "first", desc := "([JI)I", sig := { parameters := [(.array .long), .int], returnType := some .int }, accessFlags := 8, code := some k2c0 }
/-- com/example/quantiscope/quantiscope/threshold/Bins -/
def k2 : Class := { plain "com/example/quantiscope/quantiscope/threshold/Bins" (some 0) with
  accessFlags := 48
  interfaces := #[]
  cf := some (fileOf pool2 8 #[] #[{ accessFlags := 8, nameIndex := 22, descriptorIndex := 23, attributes := #[] }] 48 2 #[] #[{ accessFlags := 18, nameIndex := 11, descriptorIndex := 12, attributes := #[] }, { accessFlags := 18, nameIndex := 15, descriptorIndex := 12, attributes := #[] }, { accessFlags := 18, nameIndex := 18, descriptorIndex := 19, attributes := #[] }])
  fields := #[{ name := "counts", type := (.array .long), accessFlags := 18, slot := 0, constantValue := 0 }, { name := "sums", type := (.array .long), accessFlags := 18, slot := 1, constantValue := 0 }, { name := "squares", type := (.array .double), accessFlags := 18, slot := 2, constantValue := 0 }]
  methods := #[k2m0]
  instanceTypes := #[(.array .long), (.array .long), (.array .double)]
  staticTypes := #[]
  resolved := Array.replicate 83 none
  statics := none }

def pool3 : Array CpInfo := pool [(1, u "java/lang/Cloneable"), (0, .class_ 1), (0, u "java/lang/Object"), (0, .class_ 3)] 3

/-- java/lang/Cloneable -/
def k3 : Class := { plain "java/lang/Cloneable" (some 0) with
  accessFlags := 1537
  interfaces := #[]
  cf := some (fileOf pool3 2 #[] #[] 1537 4 #[] #[])
  fields := #[]
  methods := #[]
  instanceTypes := #[]
  staticTypes := #[]
  resolved := Array.replicate 8 none
  statics := none }

def pool4 : Array CpInfo := pool [(1, u "java/io/Serializable"), (0, .class_ 1), (0, u "java/lang/Object"), (0, .class_ 3)] 3

/-- java/io/Serializable -/
def k4 : Class := { plain "java/io/Serializable" (some 0) with
  accessFlags := 1537
  interfaces := #[]
  cf := some (fileOf pool4 2 #[] #[] 1537 4 #[] #[])
  fields := #[]
  methods := #[]
  instanceTypes := #[]
  staticTypes := #[]
  resolved := Array.replicate 8 none
  statics := none }

/-- the primitive byte -/
def k5 : Class := { plain "byte" none with kind := .primitive 'B', accessFlags := 0x411 }
/-- [B -/
def k6 : Class := { plain "[B" (some 0) with kind := .array 5 .byte, interfaces := #[3, 4], accessFlags := 1041 }

/-- the primitive int -/
def k7 : Class := { plain "int" none with kind := .primitive 'I', accessFlags := 0x411 }
/-- [I -/
def k8 : Class := { plain "[I" (some 0) with kind := .array 7 .int, interfaces := #[3, 4], accessFlags := 1041 }

/-- the primitive long -/
def k9 : Class := { plain "long" none with kind := .primitive 'J', accessFlags := 0x411 }
/-- [J -/
def k10 : Class := { plain "[J" (some 0) with kind := .array 9 .long, interfaces := #[3, 4], accessFlags := 1041 }

def heap : Heap := #[]
def classes : Array Class := #[k0, k1, k2, k3, k4, k5, k6, k7, k8, k9, k10]
def interned : List (Array UInt16 × Addr) := []
def slotsUsed : Nat := 0
def theMethod : MethodId := ⟨1, 2⟩
def args0 : Array Value := #[.int 5, .int 6, .long 7, .int 5, .int 6]
def aboutOver (below : List Frame) : State where
  vm := { classes := classes, interned := interned.toArray }
  heap := heap
  slotsUsed := slotsUsed
  threads := #[{ frames := .invoking theMethod args0 :: below }]
def below0 : List Frame := [.native { method := ⟨0, 0⟩, args := #[] }]
def about1 : State := aboutOver below0
def p0 : Program := .bare "" "" ""
def e0 : Env := launch0.env 0 0 0
theorem w_frames : about1.frames = Frame.invoking theMethod args0 :: below0 := rfl
set_option maxRecDepth 65536 in
theorem w_args : argsFit about1.vm theMethod args0 = true := by decide +kernel
set_option maxRecDepth 65536 in
theorem w_heap : heapFits about1 = true := by decide +kernel
set_option maxRecDepth 65536 in
theorem w_runnable : about1.curStatus? = some .runnable := by decide +kernel
set_option maxRecDepth 65536 in
theorem w_alone : about1.alone = true := by decide +kernel
set_option maxRecDepth 65536 in
theorem w_named : about1.methodNamed? x = some theMethod := by decide +kernel
set_option maxRecDepth 65536 in
theorem w_hears : about1.hears theMethod below0 = true := by decide +kernel
set_option maxRecDepth 65536 in
theorem w_ripe : about1.ripe theMethod args0 below0 = true := by decide +kernel
theorem w_running : about1.status = .running := rfl
set_option maxRecDepth 65536 in
theorem w_room : about1.hasRoom e0.platform room_1 = true :=
  launch0.hasRoom_least _ room_1 (by decide +kernel) (by decide +kernel) (by decide +kernel) (by decide +kernel) (by decide +kernel) (by decide +kernel)
theorem allAtoms_all (ts : List Jvm.Cond) (a : Array Jvm.Value) (st : Jvm.State) : (allAtoms ts).before a st = ts.all (fun c => c.before a st) := by
  induction ts with
  | nil => rfl
  | cons c t ih =>
    show (Jvm.Cond.and c (allAtoms t)).before a st = _
    rw [Jvm.Cond.before_and, ih, List.all_cons]
def words1 : List Jvm.Cond := Jvm.Cond.code x code maxLocals ret :: tables_1
/-- a 'code' word, met by the world's own term for the bytes: nothing is compared byte by byte -/
theorem code_word {y : MethodName} {bytes : ByteArray} {mx : Nat} {rt : Option FieldType} {a : Array Value} {s : State} {m : MethodId} {meth : Method} {c : Code} (h1 : s.methodNamed? y = some m) (h2 : s.vm.method? m = some meth) (h3 : meth.code = some c) (h4 : c.code = bytes)
    (h5 : (c.maxLocals == mx && c.exceptionTable.isEmpty && decide (c.maxStack ≤ mostOperands) && decide (meth.sig.returnType = rt) && !meth.locks && decide (parseMethodDescriptor y.desc = some meth.sig)) = true) : (Jvm.Cond.code y bytes mx rt).before a s = true := by
  simp only [Bool.and_eq_true, beq_iff_eq, Bool.not_eq_true', decide_eq_true_eq] at h5
  obtain ⟨⟨⟨⟨⟨g1, g2⟩, g3⟩, g4⟩, g5⟩, g6⟩ := h5
  simp [Cond.before, Cond.holds, Cond.value, h1, h2, h3, h4, g1, g2, g3, g4, g5, g6]
def isCode : Jvm.Cond → Bool
  | .code _ _ _ _ => true
  | _ => false
theorem all_split {L : List Jvm.Cond} {P : Jvm.Cond → Bool} (h1 : L.all (fun c => isCode c || P c) = true) (h2 : ∀ c ∈ L.filter isCode, P c = true) : L.all P = true := by
  refine List.all_eq_true.mpr fun c hc => ?_
  have h := List.all_eq_true.mp h1 c hc
  rcases Bool.eq_false_or_eq_true (isCode c) with hi | hi
  · exact h2 c (List.mem_filter.mpr ⟨hc, hi⟩)
  · simpa [hi] using h
set_option maxRecDepth 65536 in
theorem w_c0 : (Jvm.Cond.code x code maxLocals ret).before args0 about1 = true := code_word (m := ⟨1, 2⟩) (meth := k1m2) (c := k1c2) (by decide +kernel) rfl rfl rfl (by decide +kernel)
set_option maxRecDepth 65536 in
theorem w_c1 : (Jvm.Cond.code ({ cls := "com/example/quantiscope/quantiscope/threshold/Bins", name := "first", desc := "([JI)I" } : Jvm.MethodName) prog_63_method_3_code (3 : Nat) (Option.some Jvm.ClassFile.FieldType.int)).before args0 about1 = true := code_word (m := ⟨2, 0⟩) (meth := k2m0) (c := k2c0) (by decide +kernel) rfl rfl rfl (by decide +kernel)
set_option maxRecDepth 65536 in
theorem w_c2 : (Jvm.Cond.code ({ cls := "com/example/quantiscope/quantiscope/threshold/BinsFirstPinLaw", name := "val", desc := "(JI)J" } : Jvm.MethodName) method_2_code (5 : Nat) (Option.some Jvm.ClassFile.FieldType.long)).before args0 about1 = true := code_word (m := ⟨1, 1⟩) (meth := k1m1) (c := k1c1) (by decide +kernel) rfl rfl rfl (by decide +kernel)
def codes1 : List Jvm.Cond := [Jvm.Cond.code x code maxLocals ret, Jvm.Cond.code ({ cls := "com/example/quantiscope/quantiscope/threshold/Bins", name := "first", desc := "([JI)I" } : Jvm.MethodName) prog_63_method_3_code (3 : Nat) (Option.some Jvm.ClassFile.FieldType.int), Jvm.Cond.code ({ cls := "com/example/quantiscope/quantiscope/threshold/BinsFirstPinLaw", name := "val", desc := "(JI)J" } : Jvm.MethodName) method_2_code (5 : Nat) (Option.some Jvm.ClassFile.FieldType.long)]
set_option maxRecDepth 65536 in
theorem codes_eq : words1.filter isCode = codes1 := rfl
theorem w_codes : ∀ c ∈ words1.filter isCode, c.before args0 about1 = true := by
  rw [codes_eq]
  intro c hc
  simp only [codes1, List.mem_cons, List.not_mem_nil, or_false] at hc
  rcases hc with rfl | rfl | rfl
  · exact w_c0
  · exact w_c1
  · exact w_c2
set_option maxRecDepth 65536 in
theorem w_t1 : words1.all (fun c => isCode c || c.before args0 about1) = true := by decide +kernel
theorem w_tables : (allAtoms (Jvm.Cond.code x code maxLocals ret :: tables_1)).before args0 about1 = true := by
  rw [allAtoms_all]
  show words1.all (fun c => c.before args0 about1) = true
  refine all_split ?_ w_codes
  rw [w_t1]
set_option maxRecDepth 65536 in
theorem w_case : (Jvm.Cond.and given_1 narrow_1).before args0 about1 = true := by decide +kernel
theorem w_applies : (headSpec (Jvm.Cond.code x code maxLocals ret :: tables_1) room_1).applies x e0.platform about1 = true :=
  (Spec.applies_iff w_frames).mpr ⟨w_running, w_runnable, w_alone, w_named, w_hears, w_ripe, w_room, w_tables⟩
theorem atStart : AtStart classFile x code maxLocals ret World_1 tables_1 room_1 Calls_1 rest_1 Pre_1 launch0 p0 e0 about1 theMethod args0 below0 :=
  ⟨lists_1, trivial, launch0.admits_env _ _ _, launch0.least_env, fairChoices_fair.cas, fairChoices_fair.clock, w_frames, w_args, w_heap, w_applies, trivial, trivial, w_case⟩
end start1
theorem witness_1 : WitnessClaimed_1 := ⟨start1.p0, start1.e0, start1.about1, start1.theMethod, start1.args0, start1.below0, start1.atStart⟩
end Jvm.Pilot.@@N@@
