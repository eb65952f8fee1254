import JvmDerived
import JvmDerived.Pilot.@@N@@Statement
import JvmDerived.Pilot.@@N@@Code
set_option linter.unusedVariables false
set_option linter.unusedSimpArgs false
@@BLOCK:NumsL.lean.txt@@
namespace Jvm.RoadKit
open Sem ClassFile Op Lib Jvm.Stand Jvm.Free Jvm.LawKit
section New
variable {p : Program} {l : Launch} {e : Env} {R : Room} {s : State} {m : MethodId} {args : Array Value} {below : List Frame} {meth : Method} {c : Code} {T : State} {locs : List Loc} {cells slots : Nat}
theorem retI (X : Stand p l e R s m args below meth c T locs cells slots) (hx : p.tables.exec = Jvm.exec) {pc : Nat} {Ls : Array Slot} {z : Int32} {rest : List Value} (hret : meth.sig.returnType = some .int) (hd : decode c.code pc = .ok (.ireturn, 1)) {fs : List Frame}
    (hl : ∀ (f : JFrame) (acts : List Action), f.method = m → f.locked = none → f.entered = [] → (doReturn e (T.setTop f) acts (some (.int z))).1 = T.setFrames fs) : Steps p.tables e below (T.setTop (mkF m pc Ls (.int z :: rest))) (T.setFrames fs) := by
  have hm' : T.vm.method? m = some meth := X.method'
  have hn : narrow .int (.int z) = .int z := rfl
  show Steps p.tables e below (T.setTop { method := m, pc := pc, locals := Ls, stack := _ :: rest, locked := none }) _
  jvm_step X.here [X.here.top, hx, hd, hm', hret, hn]
  first | (intro acts; rw [hl _ acts rfl rfl rfl]) | rw [hl _ _ rfl rfl rfl]
  exact Steps.refl _
theorem retJ (X : Stand p l e R s m args below meth c T locs cells slots) (hx : p.tables.exec = Jvm.exec) {pc : Nat} {Ls : Array Slot} {z : Int64} {rest : List Value} (hret : meth.sig.returnType = some .long) (hd : decode c.code pc = .ok (.lreturn, 1)) {fs : List Frame}
    (hl : ∀ (f : JFrame) (acts : List Action), f.method = m → f.locked = none → f.entered = [] → (doReturn e (T.setTop f) acts (some (.long z))).1 = T.setFrames fs) : Steps p.tables e below (T.setTop (mkF m pc Ls (.long z :: rest))) (T.setFrames fs) := by
  have hm' : T.vm.method? m = some meth := X.method'
  have hn : narrow .long (.long z) = .long z := rfl
  show Steps p.tables e below (T.setTop { method := m, pc := pc, locals := Ls, stack := _ :: rest, locked := none }) _
  jvm_step X.here [X.here.top, hx, hd, hm', hret, hn]
  first | (intro acts; rw [hl _ acts rfl rfl rfl]) | rw [hl _ _ rfl rfl rfl]
  exact Steps.refl _
theorem retD (X : Stand p l e R s m args below meth c T locs cells slots) (hx : p.tables.exec = Jvm.exec) {pc : Nat} {Ls : Array Slot} {z : UInt64} {rest : List Value} (hret : meth.sig.returnType = some .double) (hd : decode c.code pc = .ok (.dreturn, 1)) {fs : List Frame}
    (hl : ∀ (f : JFrame) (acts : List Action), f.method = m → f.locked = none → f.entered = [] → (doReturn e (T.setTop f) acts (some (.double z))).1 = T.setFrames fs) : Steps p.tables e below (T.setTop (mkF m pc Ls (.double z :: rest))) (T.setFrames fs) := by
  have hm' : T.vm.method? m = some meth := X.method'
  have hn : narrow .double (.double z) = .double z := rfl
  show Steps p.tables e below (T.setTop { method := m, pc := pc, locals := Ls, stack := _ :: rest, locked := none }) _
  jvm_step X.here [X.here.top, hx, hd, hm', hret, hn]
  first | (intro acts; rw [hl _ acts rfl rfl rfl]) | rw [hl _ _ rfl rfl rfl]
  exact Steps.refl _
end New
end Jvm.RoadKit
namespace Jvm.Pilot.@@N@@
open Jvm Jvm.ClassFile Sem Op Lib Jvm.Free Jvm.Stand Jvm.LawKit Jvm.RoadKit Bundle Jvm.Pilot.@@N@@.Jvm.D
theorem own_i {n : Nat} (h : n < 2147483648) : (Int32.ofNat n).toInt = n := Int32.toInt_ofNat_of_lt (by omega)
theorem own_lt {i n : Nat} (h : i < n) (hn : n ≤ 9) : Int32.ofNat i < Int32.ofNat n := by
  rw [Int32.lt_iff_toInt_lt, own_i (by omega), own_i (by omega)]; omega
theorem own_nlt {i n : Nat} (h : n ≤ i) (hn : i ≤ 9) : ¬ Int32.ofNat i < Int32.ofNat n := by
  rw [Int32.lt_iff_toInt_lt, own_i (by omega), own_i (by omega)]; omega
theorem own_nn {n : Nat} (hn : n ≤ 9) : ¬ Int32.ofNat n < 0 := by
  rw [Int32.lt_iff_toInt_lt, own_i (by omega), show (0 : Int32).toInt = 0 from rfl]; omega
theorem own_n32 {n : Nat} (hn : n ≤ 9) : (Int32.ofNat n).toNatClampNeg = n := by
  rw [Int32.toNatClampNeg, own_i (by omega)]; rfl
theorem own_inc (i : Nat) : Int32.ofNat i + (1 : Int32) = Int32.ofNat (i + 1) := (Int32.ofNat_add i 1).symm
theorem own_pred {j : Nat} (h : 0 < j) : Int32.ofNat j - (1 : Int32) = Int32.ofNat (j - 1) := by
  have : j = (j - 1) + 1 := by omega
  rw [this, ← own_inc, Int32.add_sub_cancel]; rfl
theorem own_mod (x m : Int32) (hm : 0 < m.toInt) : 0 ≤ ((x &&& (2147483647 : Int32)) % m).toInt ∧ ((x &&& (2147483647 : Int32)) % m).toInt < m.toInt := by
  have h := Jvm.Kit.i32_mask x 2147483647 (k := 31) (by decide) (by decide)
  have h0 : 0 ≤ (x &&& (2147483647 : Int32)).toInt := by rw [h]; exact Int.emod_nonneg _ (by decide)
  rw [Jvm.Kit.i32_rem_nonneg h0]
  exact ⟨Int.emod_nonneg _ (by omega), Int.emod_lt_of_pos _ hm⟩
theorem own_from (x a : Int32) (h : a = ((x &&& (2147483647 : Int32)) % (9 : Int32))) : ∃ A : Nat, A ≤ 8 ∧ a = Int32.ofNat A := by
  have m := own_mod x 9 (by decide)
  rw [← h, show (9 : Int32).toInt = 9 from by decide] at m
  exact ⟨a.toInt.toNat, by omega, Int32.toInt_inj.mp (by rw [own_i (by omega)]; omega)⟩
theorem own_s9 {A : Nat} (hA : A ≤ 8) : ((9 : Int32) - Int32.ofNat A).toInt = 9 - A := by
  have e9 : (9 : Int32).toInt = 9 := by decide
  rw [Jvm.Kit.i32_sub (by rw [e9, own_i (by omega)]; omega) (by rw [e9, own_i (by omega)]; omega), e9, own_i (by omega)]
theorem own_nz9 {A : Nat} (hA : A ≤ 8) : ((9 : Int32) - Int32.ofNat A) ≠ 0 := fun q => by
  have := congrArg Int32.toInt q
  rw [own_s9 hA, show (0 : Int32).toInt = 0 from rfl] at this; omega
theorem own_to (x b : Int32) {A : Nat} (hA : A ≤ 8) (h : b = (Int32.ofNat A + ((x &&& (2147483647 : Int32)) % ((9 : Int32) - Int32.ofNat A)))) : ∃ B : Nat, A ≤ B ∧ B ≤ 8 ∧ b = Int32.ofNat B := by
  have e := own_s9 hA
  have m := own_mod x ((9 : Int32) - Int32.ofNat A) (by omega)
  rw [e] at m
  have ea : (Int32.ofNat A).toInt = A := own_i (by omega)
  have eb : b.toInt = A + ((x &&& (2147483647 : Int32)) % ((9 : Int32) - Int32.ofNat A)).toInt := by
    rw [h, Jvm.Kit.i32_add (by rw [ea]; omega) (by rw [ea]; omega), ea]
  exact ⟨b.toInt.toNat, by omega, by omega, Int32.toInt_inj.mp (by rw [own_i (by omega)]; omega)⟩
/-- the array's places -/
def own_BA (cl : Cell) (ff : Nat → Int32) : Prop := cl.slots.size = 8 ∧ ∀ j, j < 8 → cl.slots[j]? = some (.int (ff j))
theorem own_BA0 {k : ClassId} {cl : Cell} (h : cl = newA k .byte (8 : Int32)) : own_BA cl (fun _ => 0) := by
  refine ⟨by rw [h, sz_new]; decide, fun j hj => ?_⟩
  rw [h]
  show (Array.replicate _ _)[j]? = _
  rw [Array.getElem?_replicate, if_pos (by show j < 8; exact hj)]; rfl
theorem own_BAset {cl cl' : Cell} {k : Nat} {ff : Nat → Int32} {kk r : Int32} (L : own_BA cl ff) (hk : kk.toNatClampNeg = k) (hk8 : k < 8) (h : cl' = cl.setSlot kk.toNatClampNeg (.int r)) : own_BA cl' (fun j => if j = k then r else ff j) := by
  refine ⟨by rw [h, sz_set]; exact L.1, fun j hj => ?_⟩
  rw [h, hk]
  show (cl.slots.setIfInBounds k _)[j]? = some (Value.int (if j = k then r else ff j))
  by_cases e : j = k
  · subst e; rw [Array.getElem?_setIfInBounds_self, if_pos (by rw [L.1]; exact hk8), if_pos rfl]
  · rw [Array.getElem?_setIfInBounds_ne (Ne.symm e), if_neg e]; exact L.2 j hj
theorem own_inb {cl : Cell} {k : Nat} {ff : Nat → Int32} {kk : Int32} (L : own_BA cl ff) (h0 : ¬ kk < 0) (hk : kk.toNatClampNeg = k) (hk8 : k < 8) : ¬ (kk < 0 ∨ cl.slots.size ≤ kk.toNatClampNeg) := by
  rw [L.1, hk]; exact fun q => q.elim h0 (fun q => by omega)
theorem own_inN {cl : Cell} {i : Nat} {ff : Nat → Int32} (L : own_BA cl ff) (hi : i < 8) : ¬ (Int32.ofNat i < 0 ∨ cl.slots.size ≤ (Int32.ofNat i).toNatClampNeg) := own_inb L (own_nn (by omega)) (own_n32 (by omega)) hi
theorem own_at {cl : Cell} {i : Nat} {ff : Nat → Int32} (L : own_BA cl ff) (hi : i < 8) : cl.slots[(Int32.ofNat i).toNatClampNeg]? = some (.int (ff i)) := by rw [own_n32 (by omega)]; exact L.2 i hi
def own_b2i (b : Bool) : Int32 := if b = true then 1 else 0
theorem own_b1 {b : Bool} (h : b = true) : ¬ own_b2i b = (0 : Int32) := by subst h; decide
theorem own_b0 {b : Bool} (h : ¬ b = true) : own_b2i b = (0 : Int32) := by unfold own_b2i; rw [if_neg h]
def own_cont (x : Int32) : Bool := decide ((x &&& (192 : Int32)) = (128 : Int32))
def own_lead (x : Int32) : Bool := !decide ((x &&& (255 : Int32)) < (192 : Int32))
def own_cut (ff : Nat → Int32) (j A E : Nat) : Nat := if A ≤ j ∧ j < E ∧ ff j = 0 then j else E
def own_abs (ff : Nat → Int32) (j A : Nat) (pv : Bool) : Bool := decide (A < j) && (own_cont (ff j) && (own_lead (ff (j - 1)) || pv))
def own_ind (j A E : Nat) (s : Bool) : Nat := if A ≤ j ∧ j < E ∧ s = false then 1 else 0
/-- the end, when k cuts are made, from place 7 down -/
def own_e (ff : Nat → Int32) (A B : Nat) : Nat → Nat
  | 0 => B
  | k + 1 => own_cut ff (7 - k) A (own_e ff A B k)
/-- is place j absorbed by a lead byte before it? -/
def own_s (ff : Nat → Int32) (A : Nat) : Nat → Bool
  | 0 => own_abs ff 0 A false
  | j + 1 => own_abs ff (j + 1) A (own_s ff A j)
def own_sk (ff : Nat → Int32) (B : Nat) : Nat → Nat → Nat
  | 0, i => i
  | k + 1, i => if i < B ∧ own_cont (ff i) = true then own_sk ff B k (i + 1) else i
def own_nx (ff : Nat → Int32) (B i : Nat) : Nat := if own_lead (ff i) = true then own_sk ff B 8 (i + 1) else i + 1
def own_ct (ff : Nat → Int32) (B : Nat) : Nat → Nat → Nat
  | 0, _ => 0
  | k + 1, i => if i < B ∧ ¬ ff i = 0 then 1 + own_ct ff B k (own_nx ff B i) else 0
theorem own_sk_ge (ff : Nat → Int32) (B : Nat) : ∀ k i, i ≤ own_sk ff B k i
  | 0, i => Nat.le_refl _
  | k + 1, i => by
    unfold own_sk
    split
    · exact Nat.le_trans (Nat.le_succ i) (own_sk_ge ff B k (i + 1))
    · exact Nat.le_refl _
theorem own_sk_le (ff : Nat → Int32) (B : Nat) : ∀ k i, i ≤ B → own_sk ff B k i ≤ B
  | 0, i, h => h
  | k + 1, i, h => by
    unfold own_sk
    split
    · rename_i q; exact own_sk_le ff B k (i + 1) q.1
    · exact h
theorem own_nx_gt (ff : Nat → Int32) (B i : Nat) : i < own_nx ff B i := by
  unfold own_nx
  split
  · exact own_sk_ge ff B 8 (i + 1)
  · exact Nat.lt_succ_self i
theorem own_nx_le (ff : Nat → Int32) (B i : Nat) (h : i < B) : own_nx ff B i ≤ B := by
  unfold own_nx
  split
  · exact own_sk_le ff B 8 (i + 1) h
  · exact h
theorem own_os {a1 : Addr} {n i v : Int32} {s3 : Slot} (h : One s3) : storeLocals #[.val (.ref a1), .val (.int n), .val (.int i), s3] 3 (.int v) = some #[.val (.ref a1), .val (.int n), .val (.int i), .val (.int v)] := by
  rcases h with rfl | ⟨w, rfl, hw⟩
  · rfl
  · cases w <;> first | rfl | (simp [Value.category] at hw)
/-! the plain law -/
def own_End (ff : Nat → Int32) (A B k E : Nat) : Prop := A ≤ E ∧ E ≤ B ∧ (∀ j, k ≤ j → A ≤ j → j < E → ¬ ff j = 0) ∧ (E = B ∨ ff E = 0)
theorem own_End_step {ff : Nat → Int32} {A B k E : Nat} (h : own_End ff A B (k + 1) E) : own_End ff A B k (own_cut ff k A E) := by
  obtain ⟨h1, h2, h3, h4⟩ := h
  unfold own_cut
  by_cases q : A ≤ k ∧ k < E ∧ ff k = 0
  · rw [if_pos q]
    exact ⟨q.1, by omega, fun j j1 j2 j3 => by omega, Or.inr q.2.2⟩
  · rw [if_neg q]
    refine ⟨h1, h2, fun j j1 j2 j3 => ?_, h4⟩
    by_cases e : j = k
    · subst e; exact fun z => q ⟨j2, j3, z⟩
    · exact h3 j (by omega) j2 j3
theorem own_End8 {ff : Nat → Int32} {A B : Nat} (h1 : A ≤ B) (h2 : B ≤ 8) : own_End ff A B 0 (own_e ff A B 8) := by
  have h8 : own_End ff A B 8 (own_e ff A B 0) := ⟨h1, Nat.le_refl _, fun j j1 j2 j3 => by have : j < B := j3; omega, Or.inl rfl⟩
  exact own_End_step (own_End_step (own_End_step (own_End_step (own_End_step (own_End_step (own_End_step (own_End_step h8)))))))
theorem own_cont0 {x : Int32} (h : x = 0) : own_cont x = false := by subst h; decide
theorem own_s_false {ff : Nat → Int32} {A j : Nat} (h : own_cont (ff j) = false) : own_s ff A j = false := by
  cases j with
  | zero => simp [own_s, own_abs, h]
  | succ j => simp [own_s, own_abs, h]
theorem own_s_le {ff : Nat → Int32} {A j : Nat} (h : j ≤ A) : own_s ff A j = false := by
  cases j with
  | zero => simp [own_s, own_abs]
  | succ j => simp only [own_s, own_abs]; rw [decide_eq_false (by omega)]; rfl
theorem own_s_succ {ff : Nat → Int32} {A j : Nat} (h : A ≤ j) : own_s ff A (j + 1) = (own_cont (ff (j + 1)) && (own_lead (ff j) || own_s ff A j)) := by
  simp only [own_s, own_abs]; rw [decide_eq_true (by omega)]; rfl
/-- from place i on, k of them -/
def own_sum (g : Nat → Nat) : Nat → Nat → Nat
  | 0, _ => 0
  | k + 1, i => g i + own_sum g k (i + 1)
theorem own_sum0 {g : Nat → Nat} : ∀ k i, (∀ j, i ≤ j → j < i + k → g j = 0) → own_sum g k i = 0
  | 0, _, _ => rfl
  | k + 1, i, h => by
    show g i + own_sum g k (i + 1) = 0
    rw [h i (Nat.le_refl _) (by omega), own_sum0 k (i + 1) (fun j j1 j2 => h j (by omega) (by omega))]
theorem own_sum_app {g : Nat → Nat} : ∀ k k' i, own_sum g (k + k') i = own_sum g k i + own_sum g k' (i + k)
  | 0, k', i => by rw [Nat.zero_add]; show _ = 0 + _; rw [Nat.zero_add]; rfl
  | k + 1, k', i => by
    rw [show k + 1 + k' = (k + k') + 1 from by omega]
    show g i + own_sum g (k + k') (i + 1) = g i + own_sum g k (i + 1) + own_sum g k' (i + (k + 1))
    rw [own_sum_app k k' (i + 1), show i + 1 + k = i + (k + 1) from by omega, Nat.add_assoc]
/-- where the skipping ends, and that all skipped places are absorbed -/
theorem own_sk_spec {ff : Nat → Int32} {A B E : Nat} (hB : E ≤ B) (hE : E = B ∨ ff E = 0) : ∀ k i, A < i → i ≤ E → B ≤ i + k → (own_lead (ff (i - 1)) = true ∨ own_s ff A (i - 1) = true) →
    own_sk ff B k i ≤ E ∧ (∀ j, i ≤ j → j < own_sk ff B k i → own_s ff A j = true) ∧ (own_sk ff B k i < E → own_s ff A (own_sk ff B k i) = false)
  | 0, i, h1, h2, h3, _ => ⟨h2, fun j j1 j2 => by have : j < i := j2; omega, fun q => by have : i < E := q; omega⟩
  | k + 1, i, h1, h2, h3, h4 => by
    unfold own_sk
    by_cases q : i < B ∧ own_cont (ff i) = true
    · rw [if_pos q]
      have hiE : i ≠ E := fun e => by
        subst e
        rcases hE with e | e
        · omega
        · rw [own_cont0 e] at q; exact absurd q.2 (by decide)
      have hs : own_s ff A i = true := by
        have e : i = (i - 1) + 1 := by omega
        rw [e, own_s_succ (by omega), ← e, q.2]
        rcases h4 with h | h <;> simp [h]
      obtain ⟨r1, r2, r3⟩ := own_sk_spec (A := A) hB hE k (i + 1) (by omega) (by omega) (by omega) (Or.inr (by simpa using hs))
      refine ⟨r1, fun j j1 j2 => ?_, r3⟩
      by_cases e : j = i
      · subst e; exact hs
      · exact r2 j (by omega) j2
    · rw [if_neg q]
      refine ⟨h2, fun j j1 j2 => by omega, fun z => own_s_false ?_⟩
      cases hc : own_cont (ff i) with
      | false => rfl
      | true => exact absurd ⟨by omega, hc⟩ q
theorem own_ct_spec {ff : Nat → Int32} {A B E : Nat} (hB8 : B ≤ 8) (hAE : A ≤ E) (hB : E ≤ B) (hz : ∀ j, A ≤ j → j < E → ¬ ff j = 0) (hE : E = B ∨ ff E = 0) : ∀ k i, A ≤ i → i ≤ E → B < i + k → (i < E → own_s ff A i = false) →
    own_ct ff B k i = own_sum (fun j => own_ind j A E (own_s ff A j)) (8 - i) i
  | 0, i, h1, h2, h3, h4 => by omega
  | k + 1, i, h1, h2, h3, h4 => by
    unfold own_ct
    by_cases q : i < E
    · have hq : i < B ∧ ¬ ff i = 0 := ⟨by omega, hz i h1 q⟩
      rw [if_pos hq]
      have hn : A ≤ own_nx ff B i ∧ i < own_nx ff B i ∧ own_nx ff B i ≤ E ∧ (∀ j, i + 1 ≤ j → j < own_nx ff B i → own_s ff A j = true) ∧ (own_nx ff B i < E → own_s ff A (own_nx ff B i) = false) := by
        have hgt := own_nx_gt ff B i
        refine ⟨by omega, hgt, ?_⟩
        unfold own_nx
        by_cases l : own_lead (ff i) = true
        · rw [if_pos l]
          exact own_sk_spec hB hE 8 (i + 1) (by omega) (by omega) (by omega) (Or.inl (by simpa using l))
        · rw [if_neg l]
          refine ⟨by omega, fun j j1 j2 => by omega, fun z => ?_⟩
          rw [own_s_succ h1, h4 q]
          cases hl : own_lead (ff i) with
          | true => exact absurd hl l
          | false => simp
      obtain ⟨n1, n2, n3, n4, n5⟩ := hn
      rw [own_ct_spec hB8 hAE hB hz hE k (own_nx ff B i) n1 n3 (by omega) n5]
      have e : 8 - i = (1 + (own_nx ff B i - (i + 1))) + (8 - own_nx ff B i) := by omega
      rw [e, own_sum_app, own_sum_app, show i + (1 + (own_nx ff B i - (i + 1))) = own_nx ff B i from by omega, own_sum0 (own_nx ff B i - (i + 1)) (i + 1) (fun j j1 j2 => by
        show (if _ then 1 else 0) = 0
        rw [n4 j j1 (by omega), if_neg (fun z => absurd z.2.2 (by decide))])]
      have e1 : own_sum (fun j => own_ind j A E (own_s ff A j)) 1 i = 1 := by
        show own_ind i A E (own_s ff A i) + 0 = 1
        rw [h4 q]; unfold own_ind; rw [if_pos ⟨h1, q, rfl⟩]
      rw [e1]
    · have hq : ¬ (i < B ∧ ¬ ff i = 0) := fun z => by
        have e : i = E := by omega
        subst e
        rcases hE with e | e
        · omega
        · exact z.2 e
      rw [if_neg hq]
      symm
      apply own_sum0
      intro j j1 j2
      show (if _ then 1 else 0) = 0
      rw [if_neg (fun z => by omega)]
theorem own_law {ff : Nat → Int32} {A B : Nat} (h1 : A ≤ B) (h2 : B ≤ 8) : own_ct ff B 9 A = own_sum (fun j => own_ind j A (own_e ff A B 8) (own_s ff A j)) 8 0 := by
  have hx := own_End8 (ff := ff) h1 h2
  generalize own_e ff A B 8 = E at hx ⊢
  obtain ⟨e1, e2, e3, e4⟩ := hx
  rw [own_ct_spec h2 e1 e2 (fun j j1 j2 => e3 j (Nat.zero_le _) j1 j2) e4 9 A (Nat.le_refl _) e1 (by omega) (fun _ => own_s_le (Nat.le_refl _))]
  have e : 8 = A + (8 - A) := by omega
  conv => rhs; rw [e]
  rw [own_sum_app, own_sum0 A 0 (fun j j1 j2 => by
    show (if _ then 1 else 0) = 0
    rw [if_neg (fun z => by omega)]), Nat.zero_add, Nat.zero_add]
theorem own_add (a b : Nat) : Int32.ofNat a + Int32.ofNat b = Int32.ofNat (a + b) := (Int32.ofNat_add a b).symm
theorem own_sum8 (g : Nat → Nat) : own_sum g 8 0 = g 0 + g 1 + g 2 + g 3 + g 4 + g 5 + g 6 + g 7 := by
  show g 0 + (g 1 + (g 2 + (g 3 + (g 4 + (g 5 + (g 6 + (g 7 + 0))))))) = _
  omega
theorem own_e_le {ff : Nat → Int32} {A B : Nat} (h : B ≤ 8) : ∀ k, own_e ff A B k ≤ 8
  | 0 => h
  | k + 1 => by
    unfold own_e own_cut
    split
    · omega
    · exact own_e_le h k
theorem own_len {A B : Nat} (h1 : A ≤ B) (h2 : B ≤ 8) : ¬ ((1000000000 : Int64) < (Int32.ofNat B - Int32.ofNat A).toInt64) := by
  rw [Int64.lt_iff_toInt_lt, Int32.toInt_toInt64, Jvm.Kit.i32_sub (by rw [own_i (by omega), own_i (by omega)]; omega) (by rw [own_i (by omega), own_i (by omega)]; omega), own_i (by omega), own_i (by omega), show (1000000000 : Int64).toInt = 1000000000 from by decide]
  omega

theorem d3_0 : decode method_3_code 0 = .ok (.iload_n 0, 1) := by decide +kernel
theorem d3_1 : decode method_3_code 1 = .ok (.sipush 192, 3) := by decide +kernel
theorem d3_4 : decode method_3_code 4 = .ok (.iand, 1) := by decide +kernel
theorem d3_5 : decode method_3_code 5 = .ok (.sipush 128, 3) := by decide +kernel
theorem d3_8 : decode method_3_code 8 = .ok (.if_icmp .ne 7, 3) := by decide +kernel
theorem d3_11 : decode method_3_code 11 = .ok (.iconst 1, 1) := by decide +kernel
theorem d3_12 : decode method_3_code 12 = .ok (.goto 4, 3) := by decide +kernel
theorem d3_16 : decode method_3_code 16 = .ok (.ireturn, 1) := by decide +kernel
theorem d3_15 : decode method_3_code 15 = .ok (.iconst 0, 1) := by decide +kernel
theorem pn_3 : plainName "com/example/wisteria/wisteria/value/TextValueCharacterCountBeforeNulPinLaw" = true := by first | (simp [plainName, overriddenIn]; done) | decide +kernel
theorem ef_3_x (m : MethodId) (x0 : Int32) : entryFrame m #[(.int x0)] 1 = mkF m 0 #[.val (.int x0)] [] := by first | (simp [entryFrame, mkF, argsToLocals, Value.category]; done) | rfl
def Q3 (Z : State) (x : Int32) (h0 : Heap) (n0 : Nat) (v : Option Value) (h : Heap) (L : List Loc) : Prop := v = some (.int (own_b2i (own_cont x))) ∧ Fr n0 L ∧ h = h0
set_option maxRecDepth 65536 in
set_option maxHeartbeats 40000000 in
theorem rm3 (l : Launch) (Z : State) (a0 : Array Value) (hw : ∀ d ∈ tables_1, d.before a0 Z = true) (ws : List Jvm.Cond) (x : Int32) (h0 : Heap) (n0 : Nat) (Z0 : n0 ≤ h0.size) :
    MetFree l (⟨"com/example/wisteria/wisteria/value/TextValueCharacterCountBeforeNulPinLaw", "cont", "(B)Z"⟩ : MethodName) (head1 (Jvm.Cond.code (⟨"com/example/wisteria/wisteria/value/TextValueCharacterCountBeforeNulPinLaw", "cont", "(B)Z"⟩ : MethodName) method_3_code 1 (some .boolean) :: ws) ({ frames := 0, cells := 0, slots := 0, locals := 0 } : Room)) (fun a U => a = #[(.int x)] ∧ Z.Warmed39 U.vm ∧ U.heap = h0) (fun _ _ _ _ _ => True) (fun _ U o U' => ∃ v L, o = .returned v ∧ Q3 Z x h0 n0 v U'.heap L ∧ FrameEnd U o U' L ({ frames := 0, cells := 0, slots := 0, locals := 0 } : Room).cells ({ frames := 0, cells := 0, slots := 0, locals := 0 } : Room).slots) := by
  refine MetFree.of_bodySF (plainFor_of_name pn_3) hisR ?_
  intro p e s m args below meth c s₁ Bd hml0 hP hK
  obtain ⟨rfl, hZ, hh⟩ := hP
  have hx := Bd.exec
  have hby := Bd.bytes
  have hml : c.maxLocals = 1 := hml0
  have hown : s.vm.findClass "com/example/wisteria/wisteria/value/TextValueCharacterCountBeforeNulPinLaw" = some m.cls := findClass_of_methodNamed Bd.named
  have hnm := (name_of_methodNamed Bd.named Bd.method).1
  have X0 : Stand p l e ({ frames := 0, cells := 0, slots := 0, locals := 0 } : Room) s m #[(.int x)] below meth c s₁ [] 0 0 := Stand.of_body Bd
  have e0 : s₁.heap = h0 := by rw [← hh, Bd.state]; rfl
  have N0 := Fr.nil n0
  have pre0 : ∀ t, Steps p.tables e below (s₁.setTop (mkF m 0 #[.val (.int x)] [])) t → Steps p.tables e below (s₁.setTop (entryFrame m #[(.int x)] 1)) t := fun t k => castTop (ef_3_x m x) k
  have J1 : ∀ t, Steps p.tables e below (s₁.setTop (mkF m 8 #[.val (.int x)] [(.int (128 : Int32)), (.int (x &&& (192 : Int32)))])) t → Steps p.tables e below (s₁.setTop (entryFrame m #[(.int x)] 1)) t := fun t k => pre0 t (by
      show Steps p.tables e below (s₁.setTop (mkF m 0 #[.val (.int x)] [])) _
      refine XS.iloadN X0.here hx rfl (hb hby d3_0) rfl ?_
      show Steps p.tables e below (s₁.setTop (mkF m 1 #[.val (.int x)] [(.int x)])) _
      refine XS.sipush X0.here hx rfl (hb hby d3_1) ?_
      show Steps p.tables e below (s₁.setTop (mkF m 4 #[.val (.int x)] [(.int (192 : Int32)), (.int x)])) _
      refine XS.iand X0.here hx rfl (hb hby d3_4) rfl ?_
      show Steps p.tables e below (s₁.setTop (mkF m 5 #[.val (.int x)] [(.int (x &&& (192 : Int32)))])) _
      refine XS.sipush X0.here hx rfl (hb hby d3_5) ?_
      exact k)
  by_cases hq : (x &&& (192 : Int32)) = (128 : Int32)
  ·
    have J2 : ∀ t, Steps p.tables e below (s₁.setTop (mkF m 16 #[.val (.int x)] [(.int (1 : Int32))])) t → Steps p.tables e below (s₁.setTop (entryFrame m #[(.int x)] 1)) t := fun t k => J1 t (by
        show Steps p.tables e below (s₁.setTop (mkF m 8 #[.val (.int x)] [(.int (128 : Int32)), (.int (x &&& (192 : Int32)))])) _
        refine XS.icmpNo X0.here hx rfl (hb hby d3_8) rfl (teq hq).2 ?_
        show Steps p.tables e below (s₁.setTop (mkF m 11 #[.val (.int x)] [])) _
        refine XS.iconst X0.here hx rfl (hb hby d3_11) ?_
        show Steps p.tables e below (s₁.setTop (mkF m 12 #[.val (.int x)] [(.int (1 : Int32))])) _
        refine XS.goto X0.here hx rfl (pc0 := 12) (pc' := 16) rfl (hb hby d3_12) (by decide) (by decide) ?_
        exact k)
    obtain ⟨fs, hr, hrun, hended, hW, hsame⟩ := X0.leave (v := some (.int (1 : Int32))) (fun h => by rw [Bd.returns] at h; cases h)
    refine ⟨_, _, J2 _ ?_, hrun, hended, _, _, rfl, ?_, ⟨_, rfl⟩, hW, hsame.mono (by decide) (by decide)⟩
    · show Steps p.tables e below (s₁.setTop (mkF m 16 #[.val (.int x)] [(.int (1 : Int32))])) _
      exact retN X0 hx (t := .boolean) Bd.returns (by simp) (hb hby d3_16) hr
    · show Q3 Z x h0 n0 _ s₁.heap _
      rw [e0]
      exact ⟨(by simp [own_b2i, own_cont, hq]), N0, rfl⟩
  ·
    have J3 : ∀ t, Steps p.tables e below (s₁.setTop (mkF m 16 #[.val (.int x)] [(.int (0 : Int32))])) t → Steps p.tables e below (s₁.setTop (entryFrame m #[(.int x)] 1)) t := fun t k => J1 t (by
        show Steps p.tables e below (s₁.setTop (mkF m 8 #[.val (.int x)] [(.int (128 : Int32)), (.int (x &&& (192 : Int32)))])) _
        refine XS.icmpYes X0.here hx rfl (pc0 := 8) (pc' := 15) rfl (hb hby d3_8) rfl (feq hq).2 (by decide) (by decide) ?_
        show Steps p.tables e below (s₁.setTop (mkF m 15 #[.val (.int x)] [])) _
        refine XS.iconst X0.here hx rfl (hb hby d3_15) ?_
        exact k)
    obtain ⟨fs, hr, hrun, hended, hW, hsame⟩ := X0.leave (v := some (.int (0 : Int32))) (fun h => by rw [Bd.returns] at h; cases h)
    refine ⟨_, _, J3 _ ?_, hrun, hended, _, _, rfl, ?_, ⟨_, rfl⟩, hW, hsame.mono (by decide) (by decide)⟩
    · show Steps p.tables e below (s₁.setTop (mkF m 16 #[.val (.int x)] [(.int (0 : Int32))])) _
      exact retN X0 hx (t := .boolean) Bd.returns (by simp) (hb hby d3_16) hr
    · show Q3 Z x h0 n0 _ s₁.heap _
      rw [e0]
      exact ⟨(by simp [own_b2i, own_cont, hq]), N0, rfl⟩
theorem d10_0 : decode method_4_code 0 = .ok (.iload_n 0, 1) := by decide +kernel
theorem d10_1 : decode method_4_code 1 = .ok (.sipush 255, 3) := by decide +kernel
theorem d10_4 : decode method_4_code 4 = .ok (.iand, 1) := by decide +kernel
theorem d10_5 : decode method_4_code 5 = .ok (.sipush 192, 3) := by decide +kernel
theorem d10_8 : decode method_4_code 8 = .ok (.if_icmp .lt 7, 3) := by decide +kernel
theorem d10_15 : decode method_4_code 15 = .ok (.iconst 0, 1) := by decide +kernel
theorem d10_16 : decode method_4_code 16 = .ok (.ireturn, 1) := by decide +kernel
theorem d10_11 : decode method_4_code 11 = .ok (.iconst 1, 1) := by decide +kernel
theorem d10_12 : decode method_4_code 12 = .ok (.goto 4, 3) := by decide +kernel
theorem pn_10 : plainName "com/example/wisteria/wisteria/value/TextValueCharacterCountBeforeNulPinLaw" = true := by first | (simp [plainName, overriddenIn]; done) | decide +kernel
theorem ef_10_x (m : MethodId) (x0 : Int32) : entryFrame m #[(.int x0)] 1 = mkF m 0 #[.val (.int x0)] [] := by first | (simp [entryFrame, mkF, argsToLocals, Value.category]; done) | rfl
def Q10 (Z : State) (x : Int32) (h0 : Heap) (n0 : Nat) (v : Option Value) (h : Heap) (L : List Loc) : Prop := v = some (.int (own_b2i (own_lead x))) ∧ Fr n0 L ∧ h = h0
set_option maxRecDepth 65536 in
set_option maxHeartbeats 40000000 in
theorem rm10 (l : Launch) (Z : State) (a0 : Array Value) (hw : ∀ d ∈ tables_1, d.before a0 Z = true) (ws : List Jvm.Cond) (x : Int32) (h0 : Heap) (n0 : Nat) (Z0 : n0 ≤ h0.size) :
    MetFree l (⟨"com/example/wisteria/wisteria/value/TextValueCharacterCountBeforeNulPinLaw", "lead", "(B)Z"⟩ : MethodName) (head1 (Jvm.Cond.code (⟨"com/example/wisteria/wisteria/value/TextValueCharacterCountBeforeNulPinLaw", "lead", "(B)Z"⟩ : MethodName) method_4_code 1 (some .boolean) :: ws) ({ frames := 0, cells := 0, slots := 0, locals := 0 } : Room)) (fun a U => a = #[(.int x)] ∧ Z.Warmed39 U.vm ∧ U.heap = h0) (fun _ _ _ _ _ => True) (fun _ U o U' => ∃ v L, o = .returned v ∧ Q10 Z x h0 n0 v U'.heap L ∧ FrameEnd U o U' L ({ frames := 0, cells := 0, slots := 0, locals := 0 } : Room).cells ({ frames := 0, cells := 0, slots := 0, locals := 0 } : Room).slots) := by
  refine MetFree.of_bodySF (plainFor_of_name pn_10) hisR ?_
  intro p e s m args below meth c s₁ Bd hml0 hP hK
  obtain ⟨rfl, hZ, hh⟩ := hP
  have hx := Bd.exec
  have hby := Bd.bytes
  have hml : c.maxLocals = 1 := hml0
  have hown : s.vm.findClass "com/example/wisteria/wisteria/value/TextValueCharacterCountBeforeNulPinLaw" = some m.cls := findClass_of_methodNamed Bd.named
  have hnm := (name_of_methodNamed Bd.named Bd.method).1
  have X0 : Stand p l e ({ frames := 0, cells := 0, slots := 0, locals := 0 } : Room) s m #[(.int x)] below meth c s₁ [] 0 0 := Stand.of_body Bd
  have e0 : s₁.heap = h0 := by rw [← hh, Bd.state]; rfl
  have N0 := Fr.nil n0
  have pre0 : ∀ t, Steps p.tables e below (s₁.setTop (mkF m 0 #[.val (.int x)] [])) t → Steps p.tables e below (s₁.setTop (entryFrame m #[(.int x)] 1)) t := fun t k => castTop (ef_10_x m x) k
  have J1 : ∀ t, Steps p.tables e below (s₁.setTop (mkF m 8 #[.val (.int x)] [(.int (192 : Int32)), (.int (x &&& (255 : Int32)))])) t → Steps p.tables e below (s₁.setTop (entryFrame m #[(.int x)] 1)) t := fun t k => pre0 t (by
      show Steps p.tables e below (s₁.setTop (mkF m 0 #[.val (.int x)] [])) _
      refine XS.iloadN X0.here hx rfl (hb hby d10_0) rfl ?_
      show Steps p.tables e below (s₁.setTop (mkF m 1 #[.val (.int x)] [(.int x)])) _
      refine XS.sipush X0.here hx rfl (hb hby d10_1) ?_
      show Steps p.tables e below (s₁.setTop (mkF m 4 #[.val (.int x)] [(.int (255 : Int32)), (.int x)])) _
      refine XS.iand X0.here hx rfl (hb hby d10_4) rfl ?_
      show Steps p.tables e below (s₁.setTop (mkF m 5 #[.val (.int x)] [(.int (x &&& (255 : Int32)))])) _
      refine XS.sipush X0.here hx rfl (hb hby d10_5) ?_
      exact k)
  by_cases hq : (x &&& (255 : Int32)) < (192 : Int32)
  ·
    have J2 : ∀ t, Steps p.tables e below (s₁.setTop (mkF m 16 #[.val (.int x)] [(.int (0 : Int32))])) t → Steps p.tables e below (s₁.setTop (entryFrame m #[(.int x)] 1)) t := fun t k => J1 t (by
        show Steps p.tables e below (s₁.setTop (mkF m 8 #[.val (.int x)] [(.int (192 : Int32)), (.int (x &&& (255 : Int32)))])) _
        refine XS.icmpYes X0.here hx rfl (pc0 := 8) (pc' := 15) rfl (hb hby d10_8) rfl (tlt hq).1 (by decide) (by decide) ?_
        show Steps p.tables e below (s₁.setTop (mkF m 15 #[.val (.int x)] [])) _
        refine XS.iconst X0.here hx rfl (hb hby d10_15) ?_
        exact k)
    obtain ⟨fs, hr, hrun, hended, hW, hsame⟩ := X0.leave (v := some (.int (0 : Int32))) (fun h => by rw [Bd.returns] at h; cases h)
    refine ⟨_, _, J2 _ ?_, hrun, hended, _, _, rfl, ?_, ⟨_, rfl⟩, hW, hsame.mono (by decide) (by decide)⟩
    · show Steps p.tables e below (s₁.setTop (mkF m 16 #[.val (.int x)] [(.int (0 : Int32))])) _
      exact retN X0 hx (t := .boolean) Bd.returns (by simp) (hb hby d10_16) hr
    · show Q10 Z x h0 n0 _ s₁.heap _
      rw [e0]
      exact ⟨(by simp [own_b2i, own_lead, hq]), N0, rfl⟩
  ·
    have J3 : ∀ t, Steps p.tables e below (s₁.setTop (mkF m 16 #[.val (.int x)] [(.int (1 : Int32))])) t → Steps p.tables e below (s₁.setTop (entryFrame m #[(.int x)] 1)) t := fun t k => J1 t (by
        show Steps p.tables e below (s₁.setTop (mkF m 8 #[.val (.int x)] [(.int (192 : Int32)), (.int (x &&& (255 : Int32)))])) _
        refine XS.icmpNo X0.here hx rfl (hb hby d10_8) rfl (flt hq).1 ?_
        show Steps p.tables e below (s₁.setTop (mkF m 11 #[.val (.int x)] [])) _
        refine XS.iconst X0.here hx rfl (hb hby d10_11) ?_
        show Steps p.tables e below (s₁.setTop (mkF m 12 #[.val (.int x)] [(.int (1 : Int32))])) _
        refine XS.goto X0.here hx rfl (pc0 := 12) (pc' := 16) rfl (hb hby d10_12) (by decide) (by decide) ?_
        exact k)
    obtain ⟨fs, hr, hrun, hended, hW, hsame⟩ := X0.leave (v := some (.int (1 : Int32))) (fun h => by rw [Bd.returns] at h; cases h)
    refine ⟨_, _, J3 _ ?_, hrun, hended, _, _, rfl, ?_, ⟨_, rfl⟩, hW, hsame.mono (by decide) (by decide)⟩
    · show Steps p.tables e below (s₁.setTop (mkF m 16 #[.val (.int x)] [(.int (1 : Int32))])) _
      exact retN X0 hx (t := .boolean) Bd.returns (by simp) (hb hby d10_16) hr
    · show Q10 Z x h0 n0 _ s₁.heap _
      rw [e0]
      exact ⟨(by simp [own_b2i, own_lead, hq]), N0, rfl⟩
theorem d1_0 : decode method_5_code 0 = .ok (.iload_n 1, 1) := by decide +kernel
theorem d1_1 : decode method_5_code 1 = .ok (.iload_n 2, 1) := by decide +kernel
theorem d1_2 : decode method_5_code 2 = .ok (.if_icmp .lt 18, 3) := by decide +kernel
theorem d1_20 : decode method_5_code 20 = .ok (.iload_n 3, 1) := by decide +kernel
theorem d1_21 : decode method_5_code 21 = .ok (.ireturn, 1) := by decide +kernel
theorem d1_5 : decode method_5_code 5 = .ok (.iload_n 1, 1) := by decide +kernel
theorem d1_6 : decode method_5_code 6 = .ok (.iload_n 3, 1) := by decide +kernel
theorem d1_7 : decode method_5_code 7 = .ok (.if_icmp .ge 13, 3) := by decide +kernel
theorem d1_10 : decode method_5_code 10 = .ok (.aload_n 0, 1) := by decide +kernel
theorem d1_11 : decode method_5_code 11 = .ok (.iload_n 1, 1) := by decide +kernel
theorem d1_12 : decode method_5_code 12 = .ok (.baload, 1) := by decide +kernel
theorem d1_13 : decode method_5_code 13 = .ok (.ifCond .ne 7, 3) := by decide +kernel
theorem d1_16 : decode method_5_code 16 = .ok (.iload_n 1, 1) := by decide +kernel
theorem d1_17 : decode method_5_code 17 = .ok (.goto 4, 3) := by decide +kernel
theorem pn_1 : plainName "com/example/wisteria/wisteria/value/TextValueCharacterCountBeforeNulPinLaw" = true := by first | (simp [plainName, overriddenIn]; done) | decide +kernel
theorem ef_1_xxxx (m : MethodId) (x0 : Addr) (x1 : Int32) (x2 : Int32) (x3 : Int32) : entryFrame m #[(.ref x0), (.int x1), (.int x2), (.int x3)] 4 = mkF m 0 #[.val (.ref x0), .val (.int x1), .val (.int x2), .val (.int x3)] [] := by first | (simp [entryFrame, mkF, argsToLocals, Value.category]; done) | rfl
def Q1 (Z : State) (a1 : Addr) (cl : Cell) (ff : Nat → Int32) (j : Nat) (A : Nat) (E : Nat) (h0 : Heap) (n0 : Nat) (v : Option Value) (h : Heap) (L : List Loc) : Prop := v = some (.int (Int32.ofNat (own_cut ff j A E))) ∧ Fr n0 L ∧ h = h0
set_option maxRecDepth 65536 in
set_option maxHeartbeats 40000000 in
theorem rm1 (l : Launch) (Z : State) (a0 : Array Value) (hw : ∀ d ∈ tables_1, d.before a0 Z = true) (ws : List Jvm.Cond) (a1 : Addr) (cl : Cell) (ff : Nat → Int32) (j : Nat) (A : Nat) (E : Nat) (h0 : Heap) (n0 : Nat) (Z0 : n0 ≤ h0.size) (Ar_a1 : Arr Z h0 a1 cl .byte) (L : own_BA cl ff) (hj : j < 8) (hA : A ≤ 8) (hE : E ≤ 8) :
    MetFree l (⟨"com/example/wisteria/wisteria/value/TextValueCharacterCountBeforeNulPinLaw", "cut", "([BIII)I"⟩ : MethodName) (head1 (Jvm.Cond.code (⟨"com/example/wisteria/wisteria/value/TextValueCharacterCountBeforeNulPinLaw", "cut", "([BIII)I"⟩ : MethodName) method_5_code 4 (some .int) :: ws) ({ frames := 0, cells := 0, slots := 0, locals := 0 } : Room)) (fun a U => a = #[(.ref a1), (.int (Int32.ofNat j)), (.int (Int32.ofNat A)), (.int (Int32.ofNat E))] ∧ Z.Warmed39 U.vm ∧ U.heap = h0) (fun _ _ _ _ _ => True) (fun _ U o U' => ∃ v L, o = .returned v ∧ Q1 Z a1 cl ff j A E h0 n0 v U'.heap L ∧ FrameEnd U o U' L ({ frames := 0, cells := 0, slots := 0, locals := 0 } : Room).cells ({ frames := 0, cells := 0, slots := 0, locals := 0 } : Room).slots) := by
  refine MetFree.of_bodySF (plainFor_of_name pn_1) hisR ?_
  intro p e s m args below meth c s₁ Bd hml0 hP hK
  obtain ⟨rfl, hZ, hh⟩ := hP
  have hx := Bd.exec
  have hby := Bd.bytes
  have hml : c.maxLocals = 4 := hml0
  have hown : s.vm.findClass "com/example/wisteria/wisteria/value/TextValueCharacterCountBeforeNulPinLaw" = some m.cls := findClass_of_methodNamed Bd.named
  have hnm := (name_of_methodNamed Bd.named Bd.method).1
  have X0 : Stand p l e ({ frames := 0, cells := 0, slots := 0, locals := 0 } : Room) s m #[(.ref a1), (.int (Int32.ofNat j)), (.int (Int32.ofNat A)), (.int (Int32.ofNat E))] below meth c s₁ [] 0 0 := Stand.of_body Bd
  have e0 : s₁.heap = h0 := by rw [← hh, Bd.state]; rfl
  have N0 := Fr.nil n0
  have pre0 : ∀ t, Steps p.tables e below (s₁.setTop (mkF m 0 #[.val (.ref a1), .val (.int (Int32.ofNat j)), .val (.int (Int32.ofNat A)), .val (.int (Int32.ofNat E))] [])) t → Steps p.tables e below (s₁.setTop (entryFrame m #[(.ref a1), (.int (Int32.ofNat j)), (.int (Int32.ofNat A)), (.int (Int32.ofNat E))] 4)) t := fun t k => castTop (ef_1_xxxx m a1 (Int32.ofNat j) (Int32.ofNat A) (Int32.ofNat E)) k
  have J1 : ∀ t, Steps p.tables e below (s₁.setTop (mkF m 2 #[.val (.ref a1), .val (.int (Int32.ofNat j)), .val (.int (Int32.ofNat A)), .val (.int (Int32.ofNat E))] [(.int (Int32.ofNat A)), (.int (Int32.ofNat j))])) t → Steps p.tables e below (s₁.setTop (entryFrame m #[(.ref a1), (.int (Int32.ofNat j)), (.int (Int32.ofNat A)), (.int (Int32.ofNat E))] 4)) t := fun t k => pre0 t (by
      show Steps p.tables e below (s₁.setTop (mkF m 0 #[.val (.ref a1), .val (.int (Int32.ofNat j)), .val (.int (Int32.ofNat A)), .val (.int (Int32.ofNat E))] [])) _
      refine XS.iloadN X0.here hx rfl (hb hby d1_0) rfl ?_
      show Steps p.tables e below (s₁.setTop (mkF m 1 #[.val (.ref a1), .val (.int (Int32.ofNat j)), .val (.int (Int32.ofNat A)), .val (.int (Int32.ofNat E))] [(.int (Int32.ofNat j))])) _
      refine XS.iloadN X0.here hx rfl (hb hby d1_1) rfl ?_
      exact k)
  by_cases h1 : j < A
  ·
    have J2 : ∀ t, Steps p.tables e below (s₁.setTop (mkF m 21 #[.val (.ref a1), .val (.int (Int32.ofNat j)), .val (.int (Int32.ofNat A)), .val (.int (Int32.ofNat E))] [(.int (Int32.ofNat E))])) t → Steps p.tables e below (s₁.setTop (entryFrame m #[(.ref a1), (.int (Int32.ofNat j)), (.int (Int32.ofNat A)), (.int (Int32.ofNat E))] 4)) t := fun t k => J1 t (by
        show Steps p.tables e below (s₁.setTop (mkF m 2 #[.val (.ref a1), .val (.int (Int32.ofNat j)), .val (.int (Int32.ofNat A)), .val (.int (Int32.ofNat E))] [(.int (Int32.ofNat A)), (.int (Int32.ofNat j))])) _
        refine XS.icmpYes X0.here hx rfl (pc0 := 2) (pc' := 20) rfl (hb hby d1_2) rfl (tlt (own_lt h1 (by omega))).1 (by decide) (by decide) ?_
        show Steps p.tables e below (s₁.setTop (mkF m 20 #[.val (.ref a1), .val (.int (Int32.ofNat j)), .val (.int (Int32.ofNat A)), .val (.int (Int32.ofNat E))] [])) _
        refine XS.iloadN X0.here hx rfl (hb hby d1_20) rfl ?_
        exact k)
    obtain ⟨fs, hr, hrun, hended, hW, hsame⟩ := X0.leave (v := some (.int (Int32.ofNat E))) (fun h => by rw [Bd.returns] at h; cases h)
    refine ⟨_, _, J2 _ ?_, hrun, hended, _, _, rfl, ?_, ⟨_, rfl⟩, hW, hsame.mono (by decide) (by decide)⟩
    · show Steps p.tables e below (s₁.setTop (mkF m 21 #[.val (.ref a1), .val (.int (Int32.ofNat j)), .val (.int (Int32.ofNat A)), .val (.int (Int32.ofNat E))] [(.int (Int32.ofNat E))])) _
      exact retI X0 hx Bd.returns (hb hby d1_21) hr
    · show Q1 Z a1 cl ff j A E h0 n0 _ s₁.heap _
      rw [e0]
      exact ⟨(by rw [show own_cut ff j A E = E from if_neg (fun q => absurd q.1 (by omega))]), N0, rfl⟩
  ·
    have J3 : ∀ t, Steps p.tables e below (s₁.setTop (mkF m 7 #[.val (.ref a1), .val (.int (Int32.ofNat j)), .val (.int (Int32.ofNat A)), .val (.int (Int32.ofNat E))] [(.int (Int32.ofNat E)), (.int (Int32.ofNat j))])) t → Steps p.tables e below (s₁.setTop (entryFrame m #[(.ref a1), (.int (Int32.ofNat j)), (.int (Int32.ofNat A)), (.int (Int32.ofNat E))] 4)) t := fun t k => J1 t (by
        show Steps p.tables e below (s₁.setTop (mkF m 2 #[.val (.ref a1), .val (.int (Int32.ofNat j)), .val (.int (Int32.ofNat A)), .val (.int (Int32.ofNat E))] [(.int (Int32.ofNat A)), (.int (Int32.ofNat j))])) _
        refine XS.icmpNo X0.here hx rfl (hb hby d1_2) rfl (flt (own_nlt (by omega) (by omega))).1 ?_
        show Steps p.tables e below (s₁.setTop (mkF m 5 #[.val (.ref a1), .val (.int (Int32.ofNat j)), .val (.int (Int32.ofNat A)), .val (.int (Int32.ofNat E))] [])) _
        refine XS.iloadN X0.here hx rfl (hb hby d1_5) rfl ?_
        show Steps p.tables e below (s₁.setTop (mkF m 6 #[.val (.ref a1), .val (.int (Int32.ofNat j)), .val (.int (Int32.ofNat A)), .val (.int (Int32.ofNat E))] [(.int (Int32.ofNat j))])) _
        refine XS.iloadN X0.here hx rfl (hb hby d1_6) rfl ?_
        exact k)
    by_cases h2 : j < E
    ·
      have J5 : ∀ t, Steps p.tables e below (s₁.setTop (mkF m 13 #[.val (.ref a1), .val (.int (Int32.ofNat j)), .val (.int (Int32.ofNat A)), .val (.int (Int32.ofNat E))] [(.int (ff j))])) t → Steps p.tables e below (s₁.setTop (entryFrame m #[(.ref a1), (.int (Int32.ofNat j)), (.int (Int32.ofNat A)), (.int (Int32.ofNat E))] 4)) t := fun t k => J3 t (by
          show Steps p.tables e below (s₁.setTop (mkF m 7 #[.val (.ref a1), .val (.int (Int32.ofNat j)), .val (.int (Int32.ofNat A)), .val (.int (Int32.ofNat E))] [(.int (Int32.ofNat E)), (.int (Int32.ofNat j))])) _
          refine XS.icmpNo X0.here hx rfl (hb hby d1_7) rfl (tlt (own_lt h2 (by omega))).2.1 ?_
          show Steps p.tables e below (s₁.setTop (mkF m 10 #[.val (.ref a1), .val (.int (Int32.ofNat j)), .val (.int (Int32.ofNat A)), .val (.int (Int32.ofNat E))] [])) _
          refine XS.aloadN X0.here hx rfl (hb hby d1_10) rfl rfl ?_
          show Steps p.tables e below (s₁.setTop (mkF m 11 #[.val (.ref a1), .val (.int (Int32.ofNat j)), .val (.int (Int32.ofNat A)), .val (.int (Int32.ofNat E))] [(.ref a1)])) _
          refine XS.iloadN X0.here hx rfl (hb hby d1_11) rfl ?_
          show Steps p.tables e below (s₁.setTop (mkF m 12 #[.val (.ref a1), .val (.int (Int32.ofNat j)), .val (.int (Int32.ofNat A)), .val (.int (Int32.ofNat E))] [(.int (Int32.ofNat j)), (.ref a1)])) _
          refine X0.baloadBytes hx (j := (Int32.ofNat j)) (v := (.int (ff j))) (by rw [e0]; exact Ar_a1.1) (State.isArrayOf_alike hZ.alike Ar_a1.2.1) Ar_a1.2.2 (own_inN L hj) (own_at L hj) (g := (mkF m 12 #[.val (.ref a1), .val (.int (Int32.ofNat j)), .val (.int (Int32.ofNat A)), .val (.int (Int32.ofNat E))] [(.int (Int32.ofNat j)), (.ref a1)])) rfl rfl (hb hby d1_12) _ ?_
          exact k)
      by_cases h3 : (ff j) = (0 : Int32)
      ·
        have J6 : ∀ t, Steps p.tables e below (s₁.setTop (mkF m 21 #[.val (.ref a1), .val (.int (Int32.ofNat j)), .val (.int (Int32.ofNat A)), .val (.int (Int32.ofNat E))] [(.int (Int32.ofNat j))])) t → Steps p.tables e below (s₁.setTop (entryFrame m #[(.ref a1), (.int (Int32.ofNat j)), (.int (Int32.ofNat A)), (.int (Int32.ofNat E))] 4)) t := fun t k => J5 t (by
            show Steps p.tables e below (s₁.setTop (mkF m 13 #[.val (.ref a1), .val (.int (Int32.ofNat j)), .val (.int (Int32.ofNat A)), .val (.int (Int32.ofNat E))] [(.int (ff j))])) _
            refine XS.ifNo X0.here hx rfl (hb hby d1_13) rfl ((if0 _ _).trans (teq h3).2) ?_
            show Steps p.tables e below (s₁.setTop (mkF m 16 #[.val (.ref a1), .val (.int (Int32.ofNat j)), .val (.int (Int32.ofNat A)), .val (.int (Int32.ofNat E))] [])) _
            refine XS.iloadN X0.here hx rfl (hb hby d1_16) rfl ?_
            show Steps p.tables e below (s₁.setTop (mkF m 17 #[.val (.ref a1), .val (.int (Int32.ofNat j)), .val (.int (Int32.ofNat A)), .val (.int (Int32.ofNat E))] [(.int (Int32.ofNat j))])) _
            refine XS.goto X0.here hx rfl (pc0 := 17) (pc' := 21) rfl (hb hby d1_17) (by decide) (by decide) ?_
            exact k)
        obtain ⟨fs, hr, hrun, hended, hW, hsame⟩ := X0.leave (v := some (.int (Int32.ofNat j))) (fun h => by rw [Bd.returns] at h; cases h)
        refine ⟨_, _, J6 _ ?_, hrun, hended, _, _, rfl, ?_, ⟨_, rfl⟩, hW, hsame.mono (by decide) (by decide)⟩
        · show Steps p.tables e below (s₁.setTop (mkF m 21 #[.val (.ref a1), .val (.int (Int32.ofNat j)), .val (.int (Int32.ofNat A)), .val (.int (Int32.ofNat E))] [(.int (Int32.ofNat j))])) _
          exact retI X0 hx Bd.returns (hb hby d1_21) hr
        · show Q1 Z a1 cl ff j A E h0 n0 _ s₁.heap _
          rw [e0]
          exact ⟨(by rw [show own_cut ff j A E = j from if_pos ⟨by omega, h2, h3⟩]), N0, rfl⟩
      ·
        have J7 : ∀ t, Steps p.tables e below (s₁.setTop (mkF m 21 #[.val (.ref a1), .val (.int (Int32.ofNat j)), .val (.int (Int32.ofNat A)), .val (.int (Int32.ofNat E))] [(.int (Int32.ofNat E))])) t → Steps p.tables e below (s₁.setTop (entryFrame m #[(.ref a1), (.int (Int32.ofNat j)), (.int (Int32.ofNat A)), (.int (Int32.ofNat E))] 4)) t := fun t k => J5 t (by
            show Steps p.tables e below (s₁.setTop (mkF m 13 #[.val (.ref a1), .val (.int (Int32.ofNat j)), .val (.int (Int32.ofNat A)), .val (.int (Int32.ofNat E))] [(.int (ff j))])) _
            refine XS.ifYes X0.here hx rfl (pc0 := 13) (pc' := 20) rfl (hb hby d1_13) rfl ((if0 _ _).trans (feq h3).2) (by decide) (by decide) ?_
            show Steps p.tables e below (s₁.setTop (mkF m 20 #[.val (.ref a1), .val (.int (Int32.ofNat j)), .val (.int (Int32.ofNat A)), .val (.int (Int32.ofNat E))] [])) _
            refine XS.iloadN X0.here hx rfl (hb hby d1_20) rfl ?_
            exact k)
        obtain ⟨fs, hr, hrun, hended, hW, hsame⟩ := X0.leave (v := some (.int (Int32.ofNat E))) (fun h => by rw [Bd.returns] at h; cases h)
        refine ⟨_, _, J7 _ ?_, hrun, hended, _, _, rfl, ?_, ⟨_, rfl⟩, hW, hsame.mono (by decide) (by decide)⟩
        · show Steps p.tables e below (s₁.setTop (mkF m 21 #[.val (.ref a1), .val (.int (Int32.ofNat j)), .val (.int (Int32.ofNat A)), .val (.int (Int32.ofNat E))] [(.int (Int32.ofNat E))])) _
          exact retI X0 hx Bd.returns (hb hby d1_21) hr
        · show Q1 Z a1 cl ff j A E h0 n0 _ s₁.heap _
          rw [e0]
          exact ⟨(by rw [show own_cut ff j A E = E from if_neg (fun q => h3 q.2.2)]), N0, rfl⟩
    ·
      have J4 : ∀ t, Steps p.tables e below (s₁.setTop (mkF m 21 #[.val (.ref a1), .val (.int (Int32.ofNat j)), .val (.int (Int32.ofNat A)), .val (.int (Int32.ofNat E))] [(.int (Int32.ofNat E))])) t → Steps p.tables e below (s₁.setTop (entryFrame m #[(.ref a1), (.int (Int32.ofNat j)), (.int (Int32.ofNat A)), (.int (Int32.ofNat E))] 4)) t := fun t k => J3 t (by
          show Steps p.tables e below (s₁.setTop (mkF m 7 #[.val (.ref a1), .val (.int (Int32.ofNat j)), .val (.int (Int32.ofNat A)), .val (.int (Int32.ofNat E))] [(.int (Int32.ofNat E)), (.int (Int32.ofNat j))])) _
          refine XS.icmpYes X0.here hx rfl (pc0 := 7) (pc' := 20) rfl (hb hby d1_7) rfl (flt (own_nlt (by omega) (by omega))).2.1 (by decide) (by decide) ?_
          show Steps p.tables e below (s₁.setTop (mkF m 20 #[.val (.ref a1), .val (.int (Int32.ofNat j)), .val (.int (Int32.ofNat A)), .val (.int (Int32.ofNat E))] [])) _
          refine XS.iloadN X0.here hx rfl (hb hby d1_20) rfl ?_
          exact k)
      obtain ⟨fs, hr, hrun, hended, hW, hsame⟩ := X0.leave (v := some (.int (Int32.ofNat E))) (fun h => by rw [Bd.returns] at h; cases h)
      refine ⟨_, _, J4 _ ?_, hrun, hended, _, _, rfl, ?_, ⟨_, rfl⟩, hW, hsame.mono (by decide) (by decide)⟩
      · show Steps p.tables e below (s₁.setTop (mkF m 21 #[.val (.ref a1), .val (.int (Int32.ofNat j)), .val (.int (Int32.ofNat A)), .val (.int (Int32.ofNat E))] [(.int (Int32.ofNat E))])) _
        exact retI X0 hx Bd.returns (hb hby d1_21) hr
      · show Q1 Z a1 cl ff j A E h0 n0 _ s₁.heap _
        rw [e0]
        exact ⟨(by rw [show own_cut ff j A E = E from if_neg (fun q => absurd q.2.1 h2)]), N0, rfl⟩
theorem d2_0 : decode method_6_code 0 = .ok (.iload_n 1, 1) := by decide +kernel
theorem d2_1 : decode method_6_code 1 = .ok (.iload_n 2, 1) := by decide +kernel
theorem d2_2 : decode method_6_code 2 = .ok (.if_icmp .le 31, 3) := by decide +kernel
theorem d2_33 : decode method_6_code 33 = .ok (.iconst 0, 1) := by decide +kernel
theorem d2_34 : decode method_6_code 34 = .ok (.ireturn, 1) := by decide +kernel
theorem d2_5 : decode method_6_code 5 = .ok (.aload_n 0, 1) := by decide +kernel
theorem d2_6 : decode method_6_code 6 = .ok (.iload_n 1, 1) := by decide +kernel
theorem d2_7 : decode method_6_code 7 = .ok (.baload, 1) := by decide +kernel
theorem d2_8 : decode method_6_code 8 = .ok (.invokestatic 31, 3) := by decide +kernel
theorem pd_0 : parseMethodDescriptor "(B)Z" = some ⟨[.byte], some .boolean⟩ := by decide +kernel
theorem d2_11 : decode method_6_code 11 = .ok (.ifCond .eq 22, 3) := by decide +kernel
theorem d2_14 : decode method_6_code 14 = .ok (.aload_n 0, 1) := by decide +kernel
theorem d2_15 : decode method_6_code 15 = .ok (.iload_n 1, 1) := by decide +kernel
theorem d2_16 : decode method_6_code 16 = .ok (.iconst 1, 1) := by decide +kernel
theorem d2_17 : decode method_6_code 17 = .ok (.isub, 1) := by decide +kernel
theorem d2_18 : decode method_6_code 18 = .ok (.baload, 1) := by decide +kernel
theorem d2_19 : decode method_6_code 19 = .ok (.invokestatic 35, 3) := by decide +kernel
theorem d2_22 : decode method_6_code 22 = .ok (.ifCond .ne 7, 3) := by decide +kernel
theorem d2_29 : decode method_6_code 29 = .ok (.iconst 1, 1) := by decide +kernel
theorem d2_30 : decode method_6_code 30 = .ok (.goto 4, 3) := by decide +kernel
theorem d2_25 : decode method_6_code 25 = .ok (.iload_n 3, 1) := by decide +kernel
theorem d2_26 : decode method_6_code 26 = .ok (.ifCond .eq 7, 3) := by decide +kernel
theorem pn_2 : plainName "com/example/wisteria/wisteria/value/TextValueCharacterCountBeforeNulPinLaw" = true := by first | (simp [plainName, overriddenIn]; done) | decide +kernel
theorem ef_2_xxxx (m : MethodId) (x0 : Addr) (x1 : Int32) (x2 : Int32) (x3 : Int32) : entryFrame m #[(.ref x0), (.int x1), (.int x2), (.int x3)] 4 = mkF m 0 #[.val (.ref x0), .val (.int x1), .val (.int x2), .val (.int x3)] [] := by first | (simp [entryFrame, mkF, argsToLocals, Value.category]; done) | rfl
def Q2 (Z : State) (a1 : Addr) (cl : Cell) (ff : Nat → Int32) (j : Nat) (A : Nat) (pv : Bool) (h0 : Heap) (n0 : Nat) (v : Option Value) (h : Heap) (L : List Loc) : Prop := v = some (.int (own_b2i (own_abs ff j A pv))) ∧ Fr n0 L ∧ h = h0
set_option maxRecDepth 65536 in
set_option maxHeartbeats 40000000 in
theorem rm2 (l : Launch) (Z : State) (a0 : Array Value) (hw : ∀ d ∈ tables_1, d.before a0 Z = true) (ws : List Jvm.Cond) (a1 : Addr) (cl : Cell) (ff : Nat → Int32) (j : Nat) (A : Nat) (pv : Bool) (h0 : Heap) (n0 : Nat) (Z0 : n0 ≤ h0.size) (Ar_a1 : Arr Z h0 a1 cl .byte) (L : own_BA cl ff) (hj : j < 8) (hA : A ≤ 8) :
    MetFree l (⟨"com/example/wisteria/wisteria/value/TextValueCharacterCountBeforeNulPinLaw", "absorbed", "([BIIZ)Z"⟩ : MethodName) (head1 (Jvm.Cond.code (⟨"com/example/wisteria/wisteria/value/TextValueCharacterCountBeforeNulPinLaw", "absorbed", "([BIIZ)Z"⟩ : MethodName) method_6_code 4 (some .boolean) :: ws) ({ frames := 1, cells := 0, slots := 0, locals := 12 } : Room)) (fun a U => a = #[(.ref a1), (.int (Int32.ofNat j)), (.int (Int32.ofNat A)), (.int (own_b2i pv))] ∧ Z.Warmed39 U.vm ∧ U.heap = h0) (fun _ _ _ _ _ => True) (fun _ U o U' => ∃ v L, o = .returned v ∧ Q2 Z a1 cl ff j A pv h0 n0 v U'.heap L ∧ FrameEnd U o U' L ({ frames := 1, cells := 0, slots := 0, locals := 12 } : Room).cells ({ frames := 1, cells := 0, slots := 0, locals := 12 } : Room).slots) := by
  refine MetFree.of_bodySF (plainFor_of_name pn_2) hisR ?_
  intro p e s m args below meth c s₁ Bd hml0 hP hK
  obtain ⟨rfl, hZ, hh⟩ := hP
  have hx := Bd.exec
  have hby := Bd.bytes
  have hml : c.maxLocals = 4 := hml0
  have hown : s.vm.findClass "com/example/wisteria/wisteria/value/TextValueCharacterCountBeforeNulPinLaw" = some m.cls := findClass_of_methodNamed Bd.named
  have hnm := (name_of_methodNamed Bd.named Bd.method).1
  have X0 : Stand p l e ({ frames := 1, cells := 0, slots := 0, locals := 12 } : Room) s m #[(.ref a1), (.int (Int32.ofNat j)), (.int (Int32.ofNat A)), (.int (own_b2i pv))] below meth c s₁ [] 0 0 := Stand.of_body Bd
  have e0 : s₁.heap = h0 := by rw [← hh, Bd.state]; rfl
  have N0 := Fr.nil n0
  have pre0 : ∀ t, Steps p.tables e below (s₁.setTop (mkF m 0 #[.val (.ref a1), .val (.int (Int32.ofNat j)), .val (.int (Int32.ofNat A)), .val (.int (own_b2i pv))] [])) t → Steps p.tables e below (s₁.setTop (entryFrame m #[(.ref a1), (.int (Int32.ofNat j)), (.int (Int32.ofNat A)), (.int (own_b2i pv))] 4)) t := fun t k => castTop (ef_2_xxxx m a1 (Int32.ofNat j) (Int32.ofNat A) (own_b2i pv)) k
  have J1 : ∀ t, Steps p.tables e below (s₁.setTop (mkF m 2 #[.val (.ref a1), .val (.int (Int32.ofNat j)), .val (.int (Int32.ofNat A)), .val (.int (own_b2i pv))] [(.int (Int32.ofNat A)), (.int (Int32.ofNat j))])) t → Steps p.tables e below (s₁.setTop (entryFrame m #[(.ref a1), (.int (Int32.ofNat j)), (.int (Int32.ofNat A)), (.int (own_b2i pv))] 4)) t := fun t k => pre0 t (by
      show Steps p.tables e below (s₁.setTop (mkF m 0 #[.val (.ref a1), .val (.int (Int32.ofNat j)), .val (.int (Int32.ofNat A)), .val (.int (own_b2i pv))] [])) _
      refine XS.iloadN X0.here hx rfl (hb hby d2_0) rfl ?_
      show Steps p.tables e below (s₁.setTop (mkF m 1 #[.val (.ref a1), .val (.int (Int32.ofNat j)), .val (.int (Int32.ofNat A)), .val (.int (own_b2i pv))] [(.int (Int32.ofNat j))])) _
      refine XS.iloadN X0.here hx rfl (hb hby d2_1) rfl ?_
      exact k)
  by_cases h1 : A < j
  ·
    have J3 : ∀ t, Steps p.tables e below (s₁.setTop (mkF m 8 #[.val (.ref a1), .val (.int (Int32.ofNat j)), .val (.int (Int32.ofNat A)), .val (.int (own_b2i pv))] [(.int (ff j))])) t → Steps p.tables e below (s₁.setTop (entryFrame m #[(.ref a1), (.int (Int32.ofNat j)), (.int (Int32.ofNat A)), (.int (own_b2i pv))] 4)) t := fun t k => J1 t (by
        show Steps p.tables e below (s₁.setTop (mkF m 2 #[.val (.ref a1), .val (.int (Int32.ofNat j)), .val (.int (Int32.ofNat A)), .val (.int (own_b2i pv))] [(.int (Int32.ofNat A)), (.int (Int32.ofNat j))])) _
        refine XS.icmpNo X0.here hx rfl (hb hby d2_2) rfl (tlt (own_lt h1 (by omega))).2.2.2 ?_
        show Steps p.tables e below (s₁.setTop (mkF m 5 #[.val (.ref a1), .val (.int (Int32.ofNat j)), .val (.int (Int32.ofNat A)), .val (.int (own_b2i pv))] [])) _
        refine XS.aloadN X0.here hx rfl (hb hby d2_5) rfl rfl ?_
        show Steps p.tables e below (s₁.setTop (mkF m 6 #[.val (.ref a1), .val (.int (Int32.ofNat j)), .val (.int (Int32.ofNat A)), .val (.int (own_b2i pv))] [(.ref a1)])) _
        refine XS.iloadN X0.here hx rfl (hb hby d2_6) rfl ?_
        show Steps p.tables e below (s₁.setTop (mkF m 7 #[.val (.ref a1), .val (.int (Int32.ofNat j)), .val (.int (Int32.ofNat A)), .val (.int (own_b2i pv))] [(.int (Int32.ofNat j)), (.ref a1)])) _
        refine X0.baloadBytes hx (j := (Int32.ofNat j)) (v := (.int (ff j))) (by rw [e0]; exact Ar_a1.1) (State.isArrayOf_alike hZ.alike Ar_a1.2.1) Ar_a1.2.2 (own_inN L hj) (own_at L hj) (g := (mkF m 7 #[.val (.ref a1), .val (.int (Int32.ofNat j)), .val (.int (Int32.ofNat A)), .val (.int (own_b2i pv))] [(.int (Int32.ofNat j)), (.ref a1)])) rfl rfl (hb hby d2_7) _ ?_
        exact k)
    obtain ⟨_, _, ⟨T4, L4, k4, n4⟩, -, X4, ⟨Lc4, hQ4, l4, y4, z4⟩, st4⟩ := Jvm.LawKit.callS X0 hx (y := (⟨"com/example/wisteria/wisteria/value/TextValueCharacterCountBeforeNulPinLaw", "cont", "(B)Z"⟩ : MethodName)) hown (mvT hZ (hw _ (List.mem_of_getElem? (i := 9) rfl))) (mvT hZ (hw _ (List.mem_of_getElem? (i := 10) rfl))) (mvT hZ (hw _ (List.mem_of_getElem? (i := 4) rfl))) (mvT hZ (hw _ (List.mem_of_getElem? (i := 11) rfl))) (by decide) (backOf (W := 0) (rm3 l Z a0 hw [] (ff j) h0 n0 Z0 ) hZ (hw _ (List.mem_of_getElem? (i := 11) rfl)) (hw _ (List.mem_of_getElem? (i := 4) rfl)) (by decide) (by decide)) (g := (mkF m 8 #[.val (.ref a1), .val (.int (Int32.ofNat j)), .val (.int (Int32.ofNat A)), .val (.int (own_b2i pv))] [(.int (ff j))])) rfl (by rw [hml]; rfl) (argsL := [(.int (ff j))]) (rest := []) (lenOf pd_0 rfl) rfl (by show 2 * 0 + _ ≤ _; exact Nat.le_of_eq rfl) (hb hby d2_8) (fun _ _ => ⟨rfl, e0, (by decide : 0 + 0 ≤ _), (by decide : 0 + 0 ≤ _)⟩)
    dsimp only [Pt.U, Pt.locs, Pt.cells, Pt.slots] at X4 l4 y4 z4 st4 hQ4
    subst y4 z4
    obtain ⟨rfl, Nq4, e4⟩ := hQ4
    have N5 : Fr n0 L4 := by rw [l4]; exact Fr.app N0 Nq4
    have J6 : ∀ t, Steps p.tables e below (T4.setTop (mkF m 11 #[.val (.ref a1), .val (.int (Int32.ofNat j)), .val (.int (Int32.ofNat A)), .val (.int (own_b2i pv))] [(.int (own_b2i (own_cont (ff j))))])) t → Steps p.tables e below (s₁.setTop (entryFrame m #[(.ref a1), (.int (Int32.ofNat j)), (.int (Int32.ofNat A)), (.int (own_b2i pv))] 4)) t := fun t k => J3 t (st4 t k)
    by_cases h2 : own_cont (ff j) = true
    ·
      have J8 : ∀ t, Steps p.tables e below (T4.setTop (mkF m 18 #[.val (.ref a1), .val (.int (Int32.ofNat j)), .val (.int (Int32.ofNat A)), .val (.int (own_b2i pv))] [(.int ((Int32.ofNat j) - (1 : Int32))), (.ref a1)])) t → Steps p.tables e below (s₁.setTop (entryFrame m #[(.ref a1), (.int (Int32.ofNat j)), (.int (Int32.ofNat A)), (.int (own_b2i pv))] 4)) t := fun t k => J6 t (by
          show Steps p.tables e below (T4.setTop (mkF m 11 #[.val (.ref a1), .val (.int (Int32.ofNat j)), .val (.int (Int32.ofNat A)), .val (.int (own_b2i pv))] [(.int (own_b2i (own_cont (ff j))))])) _
          refine XS.ifNo X4.here hx rfl (hb hby d2_11) rfl ((if0 _ _).trans (feq (own_b1 h2)).1) ?_
          show Steps p.tables e below (T4.setTop (mkF m 14 #[.val (.ref a1), .val (.int (Int32.ofNat j)), .val (.int (Int32.ofNat A)), .val (.int (own_b2i pv))] [])) _
          refine XS.aloadN X4.here hx rfl (hb hby d2_14) rfl rfl ?_
          show Steps p.tables e below (T4.setTop (mkF m 15 #[.val (.ref a1), .val (.int (Int32.ofNat j)), .val (.int (Int32.ofNat A)), .val (.int (own_b2i pv))] [(.ref a1)])) _
          refine XS.iloadN X4.here hx rfl (hb hby d2_15) rfl ?_
          show Steps p.tables e below (T4.setTop (mkF m 16 #[.val (.ref a1), .val (.int (Int32.ofNat j)), .val (.int (Int32.ofNat A)), .val (.int (own_b2i pv))] [(.int (Int32.ofNat j)), (.ref a1)])) _
          refine XS.iconst X4.here hx rfl (hb hby d2_16) ?_
          show Steps p.tables e below (T4.setTop (mkF m 17 #[.val (.ref a1), .val (.int (Int32.ofNat j)), .val (.int (Int32.ofNat A)), .val (.int (own_b2i pv))] [(.int (1 : Int32)), (.int (Int32.ofNat j)), (.ref a1)])) _
          refine XS.isub X4.here hx rfl (hb hby d2_17) rfl ?_
          exact k)
      have J9 : ∀ t, Steps p.tables e below (T4.setTop (mkF m 18 #[.val (.ref a1), .val (.int (Int32.ofNat j)), .val (.int (Int32.ofNat A)), .val (.int (own_b2i pv))] [(.int (Int32.ofNat (j - 1))), (.ref a1)])) t → Steps p.tables e below (s₁.setTop (entryFrame m #[(.ref a1), (.int (Int32.ofNat j)), (.int (Int32.ofNat A)), (.int (own_b2i pv))] 4)) t := fun t k => J8 t (by rw [own_pred (by omega : 0 < j)]; exact k)
      have J10 : ∀ t, Steps p.tables e below (T4.setTop (mkF m 19 #[.val (.ref a1), .val (.int (Int32.ofNat j)), .val (.int (Int32.ofNat A)), .val (.int (own_b2i pv))] [(.int (ff (j - 1)))])) t → Steps p.tables e below (s₁.setTop (entryFrame m #[(.ref a1), (.int (Int32.ofNat j)), (.int (Int32.ofNat A)), (.int (own_b2i pv))] 4)) t := fun t k => J9 t (by
          show Steps p.tables e below (T4.setTop (mkF m 18 #[.val (.ref a1), .val (.int (Int32.ofNat j)), .val (.int (Int32.ofNat A)), .val (.int (own_b2i pv))] [(.int (Int32.ofNat (j - 1))), (.ref a1)])) _
          refine X4.baloadBytes hx (j := (Int32.ofNat (j - 1))) (v := (.int (ff (j - 1)))) (by rw [e4]; exact Ar_a1.1) (State.isArrayOf_alike hZ.alike Ar_a1.2.1) Ar_a1.2.2 (own_inN L (by omega)) (own_at L (by omega)) (g := (mkF m 18 #[.val (.ref a1), .val (.int (Int32.ofNat j)), .val (.int (Int32.ofNat A)), .val (.int (own_b2i pv))] [(.int (Int32.ofNat (j - 1))), (.ref a1)])) rfl rfl (hb hby d2_18) _ ?_
          exact k)
      obtain ⟨_, _, ⟨T11, L11, k11, n11⟩, -, X11, ⟨Lc11, hQ11, l11, y11, z11⟩, st11⟩ := Jvm.LawKit.callS X4 hx (y := (⟨"com/example/wisteria/wisteria/value/TextValueCharacterCountBeforeNulPinLaw", "lead", "(B)Z"⟩ : MethodName)) hown (mvT hZ (hw _ (List.mem_of_getElem? (i := 45) rfl))) (mvT hZ (hw _ (List.mem_of_getElem? (i := 46) rfl))) (mvT hZ (hw _ (List.mem_of_getElem? (i := 4) rfl))) (mvT hZ (hw _ (List.mem_of_getElem? (i := 47) rfl))) (by decide) (backOf (W := 0) (rm10 l Z a0 hw [] (ff (j - 1)) h0 n0 Z0 ) hZ (hw _ (List.mem_of_getElem? (i := 47) rfl)) (hw _ (List.mem_of_getElem? (i := 4) rfl)) (by decide) (by decide)) (g := (mkF m 19 #[.val (.ref a1), .val (.int (Int32.ofNat j)), .val (.int (Int32.ofNat A)), .val (.int (own_b2i pv))] [(.int (ff (j - 1)))])) rfl (by rw [hml]; rfl) (argsL := [(.int (ff (j - 1)))]) (rest := []) (lenOf pd_0 rfl) rfl (by show 2 * 0 + _ ≤ _; exact Nat.le_of_eq rfl) (hb hby d2_19) (fun _ _ => ⟨rfl, e4, (by decide : 0 + 0 ≤ _), (by decide : 0 + 0 ≤ _)⟩)
      dsimp only [Pt.U, Pt.locs, Pt.cells, Pt.slots] at X11 l11 y11 z11 st11 hQ11
      subst y11 z11
      obtain ⟨rfl, Nq11, e11⟩ := hQ11
      have N12 : Fr n0 L11 := by rw [l11]; exact Fr.app N5 Nq11
      have J13 : ∀ t, Steps p.tables e below (T11.setTop (mkF m 22 #[.val (.ref a1), .val (.int (Int32.ofNat j)), .val (.int (Int32.ofNat A)), .val (.int (own_b2i pv))] [(.int (own_b2i (own_lead (ff (j - 1)))))])) t → Steps p.tables e below (s₁.setTop (entryFrame m #[(.ref a1), (.int (Int32.ofNat j)), (.int (Int32.ofNat A)), (.int (own_b2i pv))] 4)) t := fun t k => J10 t (st11 t k)
      by_cases h3 : own_lead (ff (j - 1)) = true
      ·
        have J14 : ∀ t, Steps p.tables e below (T11.setTop (mkF m 34 #[.val (.ref a1), .val (.int (Int32.ofNat j)), .val (.int (Int32.ofNat A)), .val (.int (own_b2i pv))] [(.int (1 : Int32))])) t → Steps p.tables e below (s₁.setTop (entryFrame m #[(.ref a1), (.int (Int32.ofNat j)), (.int (Int32.ofNat A)), (.int (own_b2i pv))] 4)) t := fun t k => J13 t (by
            show Steps p.tables e below (T11.setTop (mkF m 22 #[.val (.ref a1), .val (.int (Int32.ofNat j)), .val (.int (Int32.ofNat A)), .val (.int (own_b2i pv))] [(.int (own_b2i (own_lead (ff (j - 1)))))])) _
            refine XS.ifYes X11.here hx rfl (pc0 := 22) (pc' := 29) rfl (hb hby d2_22) rfl ((if0 _ _).trans (feq (own_b1 h3)).2) (by decide) (by decide) ?_
            show Steps p.tables e below (T11.setTop (mkF m 29 #[.val (.ref a1), .val (.int (Int32.ofNat j)), .val (.int (Int32.ofNat A)), .val (.int (own_b2i pv))] [])) _
            refine XS.iconst X11.here hx rfl (hb hby d2_29) ?_
            show Steps p.tables e below (T11.setTop (mkF m 30 #[.val (.ref a1), .val (.int (Int32.ofNat j)), .val (.int (Int32.ofNat A)), .val (.int (own_b2i pv))] [(.int (1 : Int32))])) _
            refine XS.goto X11.here hx rfl (pc0 := 30) (pc' := 34) rfl (hb hby d2_30) (by decide) (by decide) ?_
            exact k)
        obtain ⟨fs, hr, hrun, hended, hW, hsame⟩ := X11.leave (v := some (.int (1 : Int32))) (fun h => by rw [Bd.returns] at h; cases h)
        refine ⟨_, _, J14 _ ?_, hrun, hended, _, _, rfl, ?_, ⟨_, rfl⟩, hW, hsame.mono (by decide) (by decide)⟩
        · show Steps p.tables e below (T11.setTop (mkF m 34 #[.val (.ref a1), .val (.int (Int32.ofNat j)), .val (.int (Int32.ofNat A)), .val (.int (own_b2i pv))] [(.int (1 : Int32))])) _
          exact retN X11 hx (t := .boolean) Bd.returns (by simp) (hb hby d2_34) hr
        · show Q2 Z a1 cl ff j A pv h0 n0 _ T11.heap _
          rw [e11]
          exact ⟨(by simp [own_abs, own_b2i, h1, h2, h3]), N12, rfl⟩
      ·
        have J15 : ∀ t, Steps p.tables e below (T11.setTop (mkF m 26 #[.val (.ref a1), .val (.int (Int32.ofNat j)), .val (.int (Int32.ofNat A)), .val (.int (own_b2i pv))] [(.int (own_b2i pv))])) t → Steps p.tables e below (s₁.setTop (entryFrame m #[(.ref a1), (.int (Int32.ofNat j)), (.int (Int32.ofNat A)), (.int (own_b2i pv))] 4)) t := fun t k => J13 t (by
            show Steps p.tables e below (T11.setTop (mkF m 22 #[.val (.ref a1), .val (.int (Int32.ofNat j)), .val (.int (Int32.ofNat A)), .val (.int (own_b2i pv))] [(.int (own_b2i (own_lead (ff (j - 1)))))])) _
            refine XS.ifNo X11.here hx rfl (hb hby d2_22) rfl ((if0 _ _).trans (teq (own_b0 h3)).2) ?_
            show Steps p.tables e below (T11.setTop (mkF m 25 #[.val (.ref a1), .val (.int (Int32.ofNat j)), .val (.int (Int32.ofNat A)), .val (.int (own_b2i pv))] [])) _
            refine XS.iloadN X11.here hx rfl (hb hby d2_25) rfl ?_
            exact k)
        by_cases h4 : pv = true
        ·
          have J16 : ∀ t, Steps p.tables e below (T11.setTop (mkF m 34 #[.val (.ref a1), .val (.int (Int32.ofNat j)), .val (.int (Int32.ofNat A)), .val (.int (own_b2i pv))] [(.int (1 : Int32))])) t → Steps p.tables e below (s₁.setTop (entryFrame m #[(.ref a1), (.int (Int32.ofNat j)), (.int (Int32.ofNat A)), (.int (own_b2i pv))] 4)) t := fun t k => J15 t (by
              show Steps p.tables e below (T11.setTop (mkF m 26 #[.val (.ref a1), .val (.int (Int32.ofNat j)), .val (.int (Int32.ofNat A)), .val (.int (own_b2i pv))] [(.int (own_b2i pv))])) _
              refine XS.ifNo X11.here hx rfl (hb hby d2_26) rfl ((if0 _ _).trans (feq (own_b1 h4)).1) ?_
              show Steps p.tables e below (T11.setTop (mkF m 29 #[.val (.ref a1), .val (.int (Int32.ofNat j)), .val (.int (Int32.ofNat A)), .val (.int (own_b2i pv))] [])) _
              refine XS.iconst X11.here hx rfl (hb hby d2_29) ?_
              show Steps p.tables e below (T11.setTop (mkF m 30 #[.val (.ref a1), .val (.int (Int32.ofNat j)), .val (.int (Int32.ofNat A)), .val (.int (own_b2i pv))] [(.int (1 : Int32))])) _
              refine XS.goto X11.here hx rfl (pc0 := 30) (pc' := 34) rfl (hb hby d2_30) (by decide) (by decide) ?_
              exact k)
          obtain ⟨fs, hr, hrun, hended, hW, hsame⟩ := X11.leave (v := some (.int (1 : Int32))) (fun h => by rw [Bd.returns] at h; cases h)
          refine ⟨_, _, J16 _ ?_, hrun, hended, _, _, rfl, ?_, ⟨_, rfl⟩, hW, hsame.mono (by decide) (by decide)⟩
          · show Steps p.tables e below (T11.setTop (mkF m 34 #[.val (.ref a1), .val (.int (Int32.ofNat j)), .val (.int (Int32.ofNat A)), .val (.int (own_b2i pv))] [(.int (1 : Int32))])) _
            exact retN X11 hx (t := .boolean) Bd.returns (by simp) (hb hby d2_34) hr
          · show Q2 Z a1 cl ff j A pv h0 n0 _ T11.heap _
            rw [e11]
            exact ⟨(by simp [own_abs, own_b2i, h1, h2, h3, h4]), N12, rfl⟩
        ·
          have J17 : ∀ t, Steps p.tables e below (T11.setTop (mkF m 34 #[.val (.ref a1), .val (.int (Int32.ofNat j)), .val (.int (Int32.ofNat A)), .val (.int (own_b2i pv))] [(.int (0 : Int32))])) t → Steps p.tables e below (s₁.setTop (entryFrame m #[(.ref a1), (.int (Int32.ofNat j)), (.int (Int32.ofNat A)), (.int (own_b2i pv))] 4)) t := fun t k => J15 t (by
              show Steps p.tables e below (T11.setTop (mkF m 26 #[.val (.ref a1), .val (.int (Int32.ofNat j)), .val (.int (Int32.ofNat A)), .val (.int (own_b2i pv))] [(.int (own_b2i pv))])) _
              refine XS.ifYes X11.here hx rfl (pc0 := 26) (pc' := 33) rfl (hb hby d2_26) rfl ((if0 _ _).trans (teq (own_b0 h4)).1) (by decide) (by decide) ?_
              show Steps p.tables e below (T11.setTop (mkF m 33 #[.val (.ref a1), .val (.int (Int32.ofNat j)), .val (.int (Int32.ofNat A)), .val (.int (own_b2i pv))] [])) _
              refine XS.iconst X11.here hx rfl (hb hby d2_33) ?_
              exact k)
          obtain ⟨fs, hr, hrun, hended, hW, hsame⟩ := X11.leave (v := some (.int (0 : Int32))) (fun h => by rw [Bd.returns] at h; cases h)
          refine ⟨_, _, J17 _ ?_, hrun, hended, _, _, rfl, ?_, ⟨_, rfl⟩, hW, hsame.mono (by decide) (by decide)⟩
          · show Steps p.tables e below (T11.setTop (mkF m 34 #[.val (.ref a1), .val (.int (Int32.ofNat j)), .val (.int (Int32.ofNat A)), .val (.int (own_b2i pv))] [(.int (0 : Int32))])) _
            exact retN X11 hx (t := .boolean) Bd.returns (by simp) (hb hby d2_34) hr
          · show Q2 Z a1 cl ff j A pv h0 n0 _ T11.heap _
            rw [e11]
            exact ⟨(by simp [own_abs, own_b2i, h1, h2, h3, h4]), N12, rfl⟩
    ·
      have J7 : ∀ t, Steps p.tables e below (T4.setTop (mkF m 34 #[.val (.ref a1), .val (.int (Int32.ofNat j)), .val (.int (Int32.ofNat A)), .val (.int (own_b2i pv))] [(.int (0 : Int32))])) t → Steps p.tables e below (s₁.setTop (entryFrame m #[(.ref a1), (.int (Int32.ofNat j)), (.int (Int32.ofNat A)), (.int (own_b2i pv))] 4)) t := fun t k => J6 t (by
          show Steps p.tables e below (T4.setTop (mkF m 11 #[.val (.ref a1), .val (.int (Int32.ofNat j)), .val (.int (Int32.ofNat A)), .val (.int (own_b2i pv))] [(.int (own_b2i (own_cont (ff j))))])) _
          refine XS.ifYes X4.here hx rfl (pc0 := 11) (pc' := 33) rfl (hb hby d2_11) rfl ((if0 _ _).trans (teq (own_b0 h2)).1) (by decide) (by decide) ?_
          show Steps p.tables e below (T4.setTop (mkF m 33 #[.val (.ref a1), .val (.int (Int32.ofNat j)), .val (.int (Int32.ofNat A)), .val (.int (own_b2i pv))] [])) _
          refine XS.iconst X4.here hx rfl (hb hby d2_33) ?_
          exact k)
      obtain ⟨fs, hr, hrun, hended, hW, hsame⟩ := X4.leave (v := some (.int (0 : Int32))) (fun h => by rw [Bd.returns] at h; cases h)
      refine ⟨_, _, J7 _ ?_, hrun, hended, _, _, rfl, ?_, ⟨_, rfl⟩, hW, hsame.mono (by decide) (by decide)⟩
      · show Steps p.tables e below (T4.setTop (mkF m 34 #[.val (.ref a1), .val (.int (Int32.ofNat j)), .val (.int (Int32.ofNat A)), .val (.int (own_b2i pv))] [(.int (0 : Int32))])) _
        exact retN X4 hx (t := .boolean) Bd.returns (by simp) (hb hby d2_34) hr
      · show Q2 Z a1 cl ff j A pv h0 n0 _ T4.heap _
        rw [e4]
        exact ⟨(by simp [own_abs, own_b2i, h1, h2]), N5, rfl⟩
  ·
    have J2 : ∀ t, Steps p.tables e below (s₁.setTop (mkF m 34 #[.val (.ref a1), .val (.int (Int32.ofNat j)), .val (.int (Int32.ofNat A)), .val (.int (own_b2i pv))] [(.int (0 : Int32))])) t → Steps p.tables e below (s₁.setTop (entryFrame m #[(.ref a1), (.int (Int32.ofNat j)), (.int (Int32.ofNat A)), (.int (own_b2i pv))] 4)) t := fun t k => J1 t (by
        show Steps p.tables e below (s₁.setTop (mkF m 2 #[.val (.ref a1), .val (.int (Int32.ofNat j)), .val (.int (Int32.ofNat A)), .val (.int (own_b2i pv))] [(.int (Int32.ofNat A)), (.int (Int32.ofNat j))])) _
        refine XS.icmpYes X0.here hx rfl (pc0 := 2) (pc' := 33) rfl (hb hby d2_2) rfl (flt (own_nlt (by omega) (by omega))).2.2.2 (by decide) (by decide) ?_
        show Steps p.tables e below (s₁.setTop (mkF m 33 #[.val (.ref a1), .val (.int (Int32.ofNat j)), .val (.int (Int32.ofNat A)), .val (.int (own_b2i pv))] [])) _
        refine XS.iconst X0.here hx rfl (hb hby d2_33) ?_
        exact k)
    obtain ⟨fs, hr, hrun, hended, hW, hsame⟩ := X0.leave (v := some (.int (0 : Int32))) (fun h => by rw [Bd.returns] at h; cases h)
    refine ⟨_, _, J2 _ ?_, hrun, hended, _, _, rfl, ?_, ⟨_, rfl⟩, hW, hsame.mono (by decide) (by decide)⟩
    · show Steps p.tables e below (s₁.setTop (mkF m 34 #[.val (.ref a1), .val (.int (Int32.ofNat j)), .val (.int (Int32.ofNat A)), .val (.int (own_b2i pv))] [(.int (0 : Int32))])) _
      exact retN X0 hx (t := .boolean) Bd.returns (by simp) (hb hby d2_34) hr
    · show Q2 Z a1 cl ff j A pv h0 n0 _ s₁.heap _
      rw [e0]
      exact ⟨(by simp [own_abs, own_b2i, h1]), N0, rfl⟩
theorem d4_0 : decode method_7_code 0 = .ok (.iload_n 0, 1) := by decide +kernel
theorem d4_1 : decode method_7_code 1 = .ok (.iload_n 1, 1) := by decide +kernel
theorem d4_2 : decode method_7_code 2 = .ok (.if_icmp .lt 16, 3) := by decide +kernel
theorem d4_18 : decode method_7_code 18 = .ok (.iconst 0, 1) := by decide +kernel
theorem d4_19 : decode method_7_code 19 = .ok (.ireturn, 1) := by decide +kernel
theorem d4_5 : decode method_7_code 5 = .ok (.iload_n 0, 1) := by decide +kernel
theorem d4_6 : decode method_7_code 6 = .ok (.iload_n 2, 1) := by decide +kernel
theorem d4_7 : decode method_7_code 7 = .ok (.if_icmp .ge 11, 3) := by decide +kernel
theorem d4_10 : decode method_7_code 10 = .ok (.iload_n 3, 1) := by decide +kernel
theorem d4_11 : decode method_7_code 11 = .ok (.ifCond .ne 7, 3) := by decide +kernel
theorem d4_14 : decode method_7_code 14 = .ok (.iconst 1, 1) := by decide +kernel
theorem d4_15 : decode method_7_code 15 = .ok (.goto 4, 3) := by decide +kernel
theorem pn_4 : plainName "com/example/wisteria/wisteria/value/TextValueCharacterCountBeforeNulPinLaw" = true := by first | (simp [plainName, overriddenIn]; done) | decide +kernel
theorem ef_4_xxxx (m : MethodId) (x0 : Int32) (x1 : Int32) (x2 : Int32) (x3 : Int32) : entryFrame m #[(.int x0), (.int x1), (.int x2), (.int x3)] 4 = mkF m 0 #[.val (.int x0), .val (.int x1), .val (.int x2), .val (.int x3)] [] := by first | (simp [entryFrame, mkF, argsToLocals, Value.category]; done) | rfl
def Q4 (Z : State) (j : Nat) (A : Nat) (E : Nat) (pv : Bool) (h0 : Heap) (n0 : Nat) (v : Option Value) (h : Heap) (L : List Loc) : Prop := v = some (.int (Int32.ofNat (own_ind j A E pv))) ∧ Fr n0 L ∧ h = h0
set_option maxRecDepth 65536 in
set_option maxHeartbeats 40000000 in
theorem rm4 (l : Launch) (Z : State) (a0 : Array Value) (hw : ∀ d ∈ tables_1, d.before a0 Z = true) (ws : List Jvm.Cond) (j : Nat) (A : Nat) (E : Nat) (pv : Bool) (h0 : Heap) (n0 : Nat) (Z0 : n0 ≤ h0.size) (hj : j < 8) (hA : A ≤ 8) (hE : E ≤ 8) :
    MetFree l (⟨"com/example/wisteria/wisteria/value/TextValueCharacterCountBeforeNulPinLaw", "one", "(IIIZ)I"⟩ : MethodName) (head1 (Jvm.Cond.code (⟨"com/example/wisteria/wisteria/value/TextValueCharacterCountBeforeNulPinLaw", "one", "(IIIZ)I"⟩ : MethodName) method_7_code 4 (some .int) :: ws) ({ frames := 0, cells := 0, slots := 0, locals := 0 } : Room)) (fun a U => a = #[(.int (Int32.ofNat j)), (.int (Int32.ofNat A)), (.int (Int32.ofNat E)), (.int (own_b2i pv))] ∧ Z.Warmed39 U.vm ∧ U.heap = h0) (fun _ _ _ _ _ => True) (fun _ U o U' => ∃ v L, o = .returned v ∧ Q4 Z j A E pv h0 n0 v U'.heap L ∧ FrameEnd U o U' L ({ frames := 0, cells := 0, slots := 0, locals := 0 } : Room).cells ({ frames := 0, cells := 0, slots := 0, locals := 0 } : Room).slots) := by
  refine MetFree.of_bodySF (plainFor_of_name pn_4) hisR ?_
  intro p e s m args below meth c s₁ Bd hml0 hP hK
  obtain ⟨rfl, hZ, hh⟩ := hP
  have hx := Bd.exec
  have hby := Bd.bytes
  have hml : c.maxLocals = 4 := hml0
  have hown : s.vm.findClass "com/example/wisteria/wisteria/value/TextValueCharacterCountBeforeNulPinLaw" = some m.cls := findClass_of_methodNamed Bd.named
  have hnm := (name_of_methodNamed Bd.named Bd.method).1
  have X0 : Stand p l e ({ frames := 0, cells := 0, slots := 0, locals := 0 } : Room) s m #[(.int (Int32.ofNat j)), (.int (Int32.ofNat A)), (.int (Int32.ofNat E)), (.int (own_b2i pv))] below meth c s₁ [] 0 0 := Stand.of_body Bd
  have e0 : s₁.heap = h0 := by rw [← hh, Bd.state]; rfl
  have N0 := Fr.nil n0
  have pre0 : ∀ t, Steps p.tables e below (s₁.setTop (mkF m 0 #[.val (.int (Int32.ofNat j)), .val (.int (Int32.ofNat A)), .val (.int (Int32.ofNat E)), .val (.int (own_b2i pv))] [])) t → Steps p.tables e below (s₁.setTop (entryFrame m #[(.int (Int32.ofNat j)), (.int (Int32.ofNat A)), (.int (Int32.ofNat E)), (.int (own_b2i pv))] 4)) t := fun t k => castTop (ef_4_xxxx m (Int32.ofNat j) (Int32.ofNat A) (Int32.ofNat E) (own_b2i pv)) k
  have J1 : ∀ t, Steps p.tables e below (s₁.setTop (mkF m 2 #[.val (.int (Int32.ofNat j)), .val (.int (Int32.ofNat A)), .val (.int (Int32.ofNat E)), .val (.int (own_b2i pv))] [(.int (Int32.ofNat A)), (.int (Int32.ofNat j))])) t → Steps p.tables e below (s₁.setTop (entryFrame m #[(.int (Int32.ofNat j)), (.int (Int32.ofNat A)), (.int (Int32.ofNat E)), (.int (own_b2i pv))] 4)) t := fun t k => pre0 t (by
      show Steps p.tables e below (s₁.setTop (mkF m 0 #[.val (.int (Int32.ofNat j)), .val (.int (Int32.ofNat A)), .val (.int (Int32.ofNat E)), .val (.int (own_b2i pv))] [])) _
      refine XS.iloadN X0.here hx rfl (hb hby d4_0) rfl ?_
      show Steps p.tables e below (s₁.setTop (mkF m 1 #[.val (.int (Int32.ofNat j)), .val (.int (Int32.ofNat A)), .val (.int (Int32.ofNat E)), .val (.int (own_b2i pv))] [(.int (Int32.ofNat j))])) _
      refine XS.iloadN X0.here hx rfl (hb hby d4_1) rfl ?_
      exact k)
  by_cases h1 : j < A
  ·
    have J2 : ∀ t, Steps p.tables e below (s₁.setTop (mkF m 19 #[.val (.int (Int32.ofNat j)), .val (.int (Int32.ofNat A)), .val (.int (Int32.ofNat E)), .val (.int (own_b2i pv))] [(.int (0 : Int32))])) t → Steps p.tables e below (s₁.setTop (entryFrame m #[(.int (Int32.ofNat j)), (.int (Int32.ofNat A)), (.int (Int32.ofNat E)), (.int (own_b2i pv))] 4)) t := fun t k => J1 t (by
        show Steps p.tables e below (s₁.setTop (mkF m 2 #[.val (.int (Int32.ofNat j)), .val (.int (Int32.ofNat A)), .val (.int (Int32.ofNat E)), .val (.int (own_b2i pv))] [(.int (Int32.ofNat A)), (.int (Int32.ofNat j))])) _
        refine XS.icmpYes X0.here hx rfl (pc0 := 2) (pc' := 18) rfl (hb hby d4_2) rfl (tlt (own_lt h1 (by omega))).1 (by decide) (by decide) ?_
        show Steps p.tables e below (s₁.setTop (mkF m 18 #[.val (.int (Int32.ofNat j)), .val (.int (Int32.ofNat A)), .val (.int (Int32.ofNat E)), .val (.int (own_b2i pv))] [])) _
        refine XS.iconst X0.here hx rfl (hb hby d4_18) ?_
        exact k)
    obtain ⟨fs, hr, hrun, hended, hW, hsame⟩ := X0.leave (v := some (.int (0 : Int32))) (fun h => by rw [Bd.returns] at h; cases h)
    refine ⟨_, _, J2 _ ?_, hrun, hended, _, _, rfl, ?_, ⟨_, rfl⟩, hW, hsame.mono (by decide) (by decide)⟩
    · show Steps p.tables e below (s₁.setTop (mkF m 19 #[.val (.int (Int32.ofNat j)), .val (.int (Int32.ofNat A)), .val (.int (Int32.ofNat E)), .val (.int (own_b2i pv))] [(.int (0 : Int32))])) _
      exact retI X0 hx Bd.returns (hb hby d4_19) hr
    · show Q4 Z j A E pv h0 n0 _ s₁.heap _
      rw [e0]
      exact ⟨(by rw [show own_ind j A E pv = 0 from if_neg (fun q => absurd q.1 (by omega))]; rfl), N0, rfl⟩
  ·
    have J3 : ∀ t, Steps p.tables e below (s₁.setTop (mkF m 7 #[.val (.int (Int32.ofNat j)), .val (.int (Int32.ofNat A)), .val (.int (Int32.ofNat E)), .val (.int (own_b2i pv))] [(.int (Int32.ofNat E)), (.int (Int32.ofNat j))])) t → Steps p.tables e below (s₁.setTop (entryFrame m #[(.int (Int32.ofNat j)), (.int (Int32.ofNat A)), (.int (Int32.ofNat E)), (.int (own_b2i pv))] 4)) t := fun t k => J1 t (by
        show Steps p.tables e below (s₁.setTop (mkF m 2 #[.val (.int (Int32.ofNat j)), .val (.int (Int32.ofNat A)), .val (.int (Int32.ofNat E)), .val (.int (own_b2i pv))] [(.int (Int32.ofNat A)), (.int (Int32.ofNat j))])) _
        refine XS.icmpNo X0.here hx rfl (hb hby d4_2) rfl (flt (own_nlt (by omega) (by omega))).1 ?_
        show Steps p.tables e below (s₁.setTop (mkF m 5 #[.val (.int (Int32.ofNat j)), .val (.int (Int32.ofNat A)), .val (.int (Int32.ofNat E)), .val (.int (own_b2i pv))] [])) _
        refine XS.iloadN X0.here hx rfl (hb hby d4_5) rfl ?_
        show Steps p.tables e below (s₁.setTop (mkF m 6 #[.val (.int (Int32.ofNat j)), .val (.int (Int32.ofNat A)), .val (.int (Int32.ofNat E)), .val (.int (own_b2i pv))] [(.int (Int32.ofNat j))])) _
        refine XS.iloadN X0.here hx rfl (hb hby d4_6) rfl ?_
        exact k)
    by_cases h2 : j < E
    ·
      have J5 : ∀ t, Steps p.tables e below (s₁.setTop (mkF m 11 #[.val (.int (Int32.ofNat j)), .val (.int (Int32.ofNat A)), .val (.int (Int32.ofNat E)), .val (.int (own_b2i pv))] [(.int (own_b2i pv))])) t → Steps p.tables e below (s₁.setTop (entryFrame m #[(.int (Int32.ofNat j)), (.int (Int32.ofNat A)), (.int (Int32.ofNat E)), (.int (own_b2i pv))] 4)) t := fun t k => J3 t (by
          show Steps p.tables e below (s₁.setTop (mkF m 7 #[.val (.int (Int32.ofNat j)), .val (.int (Int32.ofNat A)), .val (.int (Int32.ofNat E)), .val (.int (own_b2i pv))] [(.int (Int32.ofNat E)), (.int (Int32.ofNat j))])) _
          refine XS.icmpNo X0.here hx rfl (hb hby d4_7) rfl (tlt (own_lt h2 (by omega))).2.1 ?_
          show Steps p.tables e below (s₁.setTop (mkF m 10 #[.val (.int (Int32.ofNat j)), .val (.int (Int32.ofNat A)), .val (.int (Int32.ofNat E)), .val (.int (own_b2i pv))] [])) _
          refine XS.iloadN X0.here hx rfl (hb hby d4_10) rfl ?_
          exact k)
      by_cases h3 : pv = true
      ·
        have J6 : ∀ t, Steps p.tables e below (s₁.setTop (mkF m 19 #[.val (.int (Int32.ofNat j)), .val (.int (Int32.ofNat A)), .val (.int (Int32.ofNat E)), .val (.int (own_b2i pv))] [(.int (0 : Int32))])) t → Steps p.tables e below (s₁.setTop (entryFrame m #[(.int (Int32.ofNat j)), (.int (Int32.ofNat A)), (.int (Int32.ofNat E)), (.int (own_b2i pv))] 4)) t := fun t k => J5 t (by
            show Steps p.tables e below (s₁.setTop (mkF m 11 #[.val (.int (Int32.ofNat j)), .val (.int (Int32.ofNat A)), .val (.int (Int32.ofNat E)), .val (.int (own_b2i pv))] [(.int (own_b2i pv))])) _
            refine XS.ifYes X0.here hx rfl (pc0 := 11) (pc' := 18) rfl (hb hby d4_11) rfl ((if0 _ _).trans (feq (own_b1 h3)).2) (by decide) (by decide) ?_
            show Steps p.tables e below (s₁.setTop (mkF m 18 #[.val (.int (Int32.ofNat j)), .val (.int (Int32.ofNat A)), .val (.int (Int32.ofNat E)), .val (.int (own_b2i pv))] [])) _
            refine XS.iconst X0.here hx rfl (hb hby d4_18) ?_
            exact k)
        obtain ⟨fs, hr, hrun, hended, hW, hsame⟩ := X0.leave (v := some (.int (0 : Int32))) (fun h => by rw [Bd.returns] at h; cases h)
        refine ⟨_, _, J6 _ ?_, hrun, hended, _, _, rfl, ?_, ⟨_, rfl⟩, hW, hsame.mono (by decide) (by decide)⟩
        · show Steps p.tables e below (s₁.setTop (mkF m 19 #[.val (.int (Int32.ofNat j)), .val (.int (Int32.ofNat A)), .val (.int (Int32.ofNat E)), .val (.int (own_b2i pv))] [(.int (0 : Int32))])) _
          exact retI X0 hx Bd.returns (hb hby d4_19) hr
        · show Q4 Z j A E pv h0 n0 _ s₁.heap _
          rw [e0]
          exact ⟨(by rw [show own_ind j A E pv = 0 from if_neg (fun q => absurd (h3.symm.trans q.2.2) (by decide))]; rfl), N0, rfl⟩
      ·
        have J7 : ∀ t, Steps p.tables e below (s₁.setTop (mkF m 19 #[.val (.int (Int32.ofNat j)), .val (.int (Int32.ofNat A)), .val (.int (Int32.ofNat E)), .val (.int (own_b2i pv))] [(.int (1 : Int32))])) t → Steps p.tables e below (s₁.setTop (entryFrame m #[(.int (Int32.ofNat j)), (.int (Int32.ofNat A)), (.int (Int32.ofNat E)), (.int (own_b2i pv))] 4)) t := fun t k => J5 t (by
            show Steps p.tables e below (s₁.setTop (mkF m 11 #[.val (.int (Int32.ofNat j)), .val (.int (Int32.ofNat A)), .val (.int (Int32.ofNat E)), .val (.int (own_b2i pv))] [(.int (own_b2i pv))])) _
            refine XS.ifNo X0.here hx rfl (hb hby d4_11) rfl ((if0 _ _).trans (teq (own_b0 h3)).2) ?_
            show Steps p.tables e below (s₁.setTop (mkF m 14 #[.val (.int (Int32.ofNat j)), .val (.int (Int32.ofNat A)), .val (.int (Int32.ofNat E)), .val (.int (own_b2i pv))] [])) _
            refine XS.iconst X0.here hx rfl (hb hby d4_14) ?_
            show Steps p.tables e below (s₁.setTop (mkF m 15 #[.val (.int (Int32.ofNat j)), .val (.int (Int32.ofNat A)), .val (.int (Int32.ofNat E)), .val (.int (own_b2i pv))] [(.int (1 : Int32))])) _
            refine XS.goto X0.here hx rfl (pc0 := 15) (pc' := 19) rfl (hb hby d4_15) (by decide) (by decide) ?_
            exact k)
        obtain ⟨fs, hr, hrun, hended, hW, hsame⟩ := X0.leave (v := some (.int (1 : Int32))) (fun h => by rw [Bd.returns] at h; cases h)
        refine ⟨_, _, J7 _ ?_, hrun, hended, _, _, rfl, ?_, ⟨_, rfl⟩, hW, hsame.mono (by decide) (by decide)⟩
        · show Steps p.tables e below (s₁.setTop (mkF m 19 #[.val (.int (Int32.ofNat j)), .val (.int (Int32.ofNat A)), .val (.int (Int32.ofNat E)), .val (.int (own_b2i pv))] [(.int (1 : Int32))])) _
          exact retI X0 hx Bd.returns (hb hby d4_19) hr
        · show Q4 Z j A E pv h0 n0 _ s₁.heap _
          rw [e0]
          exact ⟨(by rw [show own_ind j A E pv = 1 from if_pos ⟨by omega, h2, Bool.eq_false_iff.mpr h3⟩]; rfl), N0, rfl⟩
    ·
      have J4 : ∀ t, Steps p.tables e below (s₁.setTop (mkF m 19 #[.val (.int (Int32.ofNat j)), .val (.int (Int32.ofNat A)), .val (.int (Int32.ofNat E)), .val (.int (own_b2i pv))] [(.int (0 : Int32))])) t → Steps p.tables e below (s₁.setTop (entryFrame m #[(.int (Int32.ofNat j)), (.int (Int32.ofNat A)), (.int (Int32.ofNat E)), (.int (own_b2i pv))] 4)) t := fun t k => J3 t (by
          show Steps p.tables e below (s₁.setTop (mkF m 7 #[.val (.int (Int32.ofNat j)), .val (.int (Int32.ofNat A)), .val (.int (Int32.ofNat E)), .val (.int (own_b2i pv))] [(.int (Int32.ofNat E)), (.int (Int32.ofNat j))])) _
          refine XS.icmpYes X0.here hx rfl (pc0 := 7) (pc' := 18) rfl (hb hby d4_7) rfl (flt (own_nlt (by omega) (by omega))).2.1 (by decide) (by decide) ?_
          show Steps p.tables e below (s₁.setTop (mkF m 18 #[.val (.int (Int32.ofNat j)), .val (.int (Int32.ofNat A)), .val (.int (Int32.ofNat E)), .val (.int (own_b2i pv))] [])) _
          refine XS.iconst X0.here hx rfl (hb hby d4_18) ?_
          exact k)
      obtain ⟨fs, hr, hrun, hended, hW, hsame⟩ := X0.leave (v := some (.int (0 : Int32))) (fun h => by rw [Bd.returns] at h; cases h)
      refine ⟨_, _, J4 _ ?_, hrun, hended, _, _, rfl, ?_, ⟨_, rfl⟩, hW, hsame.mono (by decide) (by decide)⟩
      · show Steps p.tables e below (s₁.setTop (mkF m 19 #[.val (.int (Int32.ofNat j)), .val (.int (Int32.ofNat A)), .val (.int (Int32.ofNat E)), .val (.int (own_b2i pv))] [(.int (0 : Int32))])) _
        exact retI X0 hx Bd.returns (hb hby d4_19) hr
      · show Q4 Z j A E pv h0 n0 _ s₁.heap _
        rw [e0]
        exact ⟨(by rw [show own_ind j A E pv = 0 from if_neg (fun q => absurd q.2.1 h2)]; rfl), N0, rfl⟩
theorem d6_0 : decode prog_232_method_1_code 0 = .ok (.aload_n 0, 1) := by decide +kernel
theorem d6_1 : decode prog_232_method_1_code 1 = .ok (.invokespecial 3, 3) := by decide +kernel
theorem d6_4 : decode prog_232_method_1_code 4 = .ok (.return_, 1) := by decide +kernel
theorem pn_6 : plainName "com/example/wisteria/wisteria/value/Value" = true := by first | (simp [plainName, overriddenIn]; done) | decide +kernel
theorem ef_6_x (m : MethodId) (x0 : Addr) : entryFrame m #[(.ref x0)] 1 = mkF m 0 #[.val (.ref x0)] [] := by first | (simp [entryFrame, mkF, argsToLocals, Value.category]; done) | rfl
def Q6 (Z : State) (a1 : Addr) (h0 : Heap) (n0 : Nat) (v : Option Value) (h : Heap) (L : List Loc) : Prop := v = none ∧ Fr n0 L ∧ h = h0
set_option maxRecDepth 65536 in
set_option maxHeartbeats 40000000 in
theorem rm6 (l : Launch) (Z : State) (a0 : Array Value) (hw : ∀ d ∈ tables_1, d.before a0 Z = true) (ws : List Jvm.Cond) (a1 : Addr) (h0 : Heap) (n0 : Nat) (Z0 : n0 ≤ h0.size) :
    MetFree l (⟨"com/example/wisteria/wisteria/value/Value", "<init>", "()V"⟩ : MethodName) (head1 (Jvm.Cond.code (⟨"com/example/wisteria/wisteria/value/Value", "<init>", "()V"⟩ : MethodName) prog_232_method_1_code 1 none :: ws) ({ frames := 1, cells := 0, slots := 0, locals := 12 } : Room)) (fun a U => a = #[(.ref a1)] ∧ Z.Warmed39 U.vm ∧ U.heap = h0) (fun _ _ _ _ _ => True) (fun _ U o U' => ∃ v L, o = .returned v ∧ Q6 Z a1 h0 n0 v U'.heap L ∧ FrameEnd U o U' L ({ frames := 1, cells := 0, slots := 0, locals := 12 } : Room).cells ({ frames := 1, cells := 0, slots := 0, locals := 12 } : Room).slots) := by
  refine MetFree.of_bodySF (plainFor_of_name pn_6) hisR ?_
  intro p e s m args below meth c s₁ Bd hml0 hP hK
  obtain ⟨rfl, hZ, hh⟩ := hP
  have hx := Bd.exec
  have hby := Bd.bytes
  have hml : c.maxLocals = 1 := hml0
  have hown : s.vm.findClass "com/example/wisteria/wisteria/value/Value" = some m.cls := findClass_of_methodNamed Bd.named
  have hnm := (name_of_methodNamed Bd.named Bd.method).1
  have X0 : Stand p l e ({ frames := 1, cells := 0, slots := 0, locals := 12 } : Room) s m #[(.ref a1)] below meth c s₁ [] 0 0 := Stand.of_body Bd
  have e0 : s₁.heap = h0 := by rw [← hh, Bd.state]; rfl
  have N0 := Fr.nil n0
  have pre0 : ∀ t, Steps p.tables e below (s₁.setTop (mkF m 0 #[.val (.ref a1)] [])) t → Steps p.tables e below (s₁.setTop (entryFrame m #[(.ref a1)] 1)) t := fun t k => castTop (ef_6_x m a1) k
  have J1 : ∀ t, Steps p.tables e below (s₁.setTop (mkF m 1 #[.val (.ref a1)] [(.ref a1)])) t → Steps p.tables e below (s₁.setTop (entryFrame m #[(.ref a1)] 1)) t := fun t k => pre0 t (by
      show Steps p.tables e below (s₁.setTop (mkF m 0 #[.val (.ref a1)] [])) _
      refine XS.aloadN X0.here hx rfl (hb hby d6_0) rfl rfl ?_
      exact k)
  obtain ⟨T2, X2, e2, st2⟩ := initO X0 hx hZ hown (hw _ (List.mem_of_getElem? (i := 26) rfl)) (hw _ (List.mem_of_getElem? (i := 27) rfl)) (hw _ (List.mem_of_getElem? (i := 28) rfl)) e0 (g := (mkF m 1 #[.val (.ref a1)] [(.ref a1)])) rfl (by rw [hml]; rfl) rfl (hb hby d6_1) (by decide) (W := 0) (by show 2 * 0 + _ ≤ _; exact Nat.le_of_eq rfl) (by decide)
  have J3 : ∀ t, Steps p.tables e below (T2.setTop (mkF m 4 #[.val (.ref a1)] [])) t → Steps p.tables e below (s₁.setTop (entryFrame m #[(.ref a1)] 1)) t := fun t k => J1 t (st2 t k)
  obtain ⟨fs, hr, hrun, hended, hW, hsame⟩ := X2.leave (v := none) (fun _ => rfl)
  refine ⟨_, _, J3 _ ?_, hrun, hended, _, _, rfl, ?_, ⟨_, rfl⟩, hW, hsame.mono (by decide) (by decide)⟩
  · show Steps p.tables e below (T2.setTop (mkF m 4 #[.val (.ref a1)] [])) _
    exact X2.returnOut hx Bd.returns (hb hby d6_4) hr
  · show Q6 Z a1 h0 n0 _ T2.heap _
    rw [e2]
    exact ⟨rfl, N0, rfl⟩
theorem d8_0 : decode prog_232_method_2_code 0 = .ok (.lload_n 0, 1) := by decide +kernel
theorem d8_1 : decode prog_232_method_2_code 1 = .ok (.ldc2_w 9, 3) := by decide +kernel
theorem d8_4 : decode prog_232_method_2_code 4 = .ok (.lcmp, 1) := by decide +kernel
theorem d8_5 : decode prog_232_method_2_code 5 = .ok (.ifCond .le 7, 3) := by decide +kernel
theorem d8_12 : decode prog_232_method_2_code 12 = .ok (.return_, 1) := by decide +kernel
theorem pn_8 : plainName "com/example/wisteria/wisteria/value/Value" = true := by first | (simp [plainName, overriddenIn]; done) | decide +kernel
theorem ef_8_x (m : MethodId) (x0 : Int64) : entryFrame m #[(.long x0)] 2 = mkF m 0 #[.val (.long x0), .second] [] := by first | (simp [entryFrame, mkF, argsToLocals, Value.category]; done) | rfl
def Q8 (Z : State) (q1 : Int64) (h0 : Heap) (n0 : Nat) (v : Option Value) (h : Heap) (L : List Loc) : Prop := v = none ∧ Fr n0 L ∧ h = h0
set_option maxRecDepth 65536 in
set_option maxHeartbeats 40000000 in
theorem rm8 (l : Launch) (Z : State) (a0 : Array Value) (hw : ∀ d ∈ tables_1, d.before a0 Z = true) (ws : List Jvm.Cond) (q1 : Int64) (h0 : Heap) (n0 : Nat) (Z0 : n0 ≤ h0.size) (hle : ¬ ((1000000000 : Int64) < q1)) :
    MetFree l (⟨"com/example/wisteria/wisteria/value/Value", "checkLength", "(J)V"⟩ : MethodName) (head1 (Jvm.Cond.code (⟨"com/example/wisteria/wisteria/value/Value", "checkLength", "(J)V"⟩ : MethodName) prog_232_method_2_code 2 none :: ws) ({ frames := 0, cells := 0, slots := 0, locals := 0 } : Room)) (fun a U => a = #[(.long q1)] ∧ Z.Warmed39 U.vm ∧ U.heap = h0) (fun _ _ _ _ _ => True) (fun _ U o U' => ∃ v L, o = .returned v ∧ Q8 Z q1 h0 n0 v U'.heap L ∧ FrameEnd U o U' L ({ frames := 0, cells := 0, slots := 0, locals := 0 } : Room).cells ({ frames := 0, cells := 0, slots := 0, locals := 0 } : Room).slots) := by
  refine MetFree.of_bodySF (plainFor_of_name pn_8) hisR ?_
  intro p e s m args below meth c s₁ Bd hml0 hP hK
  obtain ⟨rfl, hZ, hh⟩ := hP
  have hx := Bd.exec
  have hby := Bd.bytes
  have hml : c.maxLocals = 2 := hml0
  have hown : s.vm.findClass "com/example/wisteria/wisteria/value/Value" = some m.cls := findClass_of_methodNamed Bd.named
  have hnm := (name_of_methodNamed Bd.named Bd.method).1
  have X0 : Stand p l e ({ frames := 0, cells := 0, slots := 0, locals := 0 } : Room) s m #[(.long q1)] below meth c s₁ [] 0 0 := Stand.of_body Bd
  have e0 : s₁.heap = h0 := by rw [← hh, Bd.state]; rfl
  have N0 := Fr.nil n0
  have pre0 : ∀ t, Steps p.tables e below (s₁.setTop (mkF m 0 #[.val (.long q1), .second] [])) t → Steps p.tables e below (s₁.setTop (entryFrame m #[(.long q1)] 2)) t := fun t k => castTop (ef_8_x m q1) k
  have J1 : ∀ t, Steps p.tables e below (s₁.setTop (mkF m 12 #[.val (.long q1), .second] [])) t → Steps p.tables e below (s₁.setTop (entryFrame m #[(.long q1)] 2)) t := fun t k => pre0 t (by
      show Steps p.tables e below (s₁.setTop (mkF m 0 #[.val (.long q1), .second] [])) _
      refine XS.lloadN X0.here hx rfl (hb hby d8_0) rfl ?_
      show Steps p.tables e below (s₁.setTop (mkF m 1 #[.val (.long q1), .second] [(.long q1)])) _
      refine X0.ldc2Long hx hown (mvT hZ (hw _ (List.mem_of_getElem? (i := 33) rfl))) (g := (mkF m 1 #[.val (.long q1), .second] [(.long q1)])) rfl (hb hby d8_1) _ ?_
      show Steps p.tables e below (s₁.setTop (mkF m 4 #[.val (.long q1), .second] [(.long (1000000000 : Int64)), (.long q1)])) _
      refine XS.lcmp X0.here hx rfl (hb hby d8_4) rfl ?_
      show Steps p.tables e below (s₁.setTop (mkF m 5 #[.val (.long q1), .second] [(.int (lcmpW q1 (1000000000 : Int64)))])) _
      refine XS.ifYes X0.here hx rfl (pc0 := 5) (pc' := 12) rfl (hb hby d8_5) rfl ((if0 _ _).trans (flt (fun q => hle ((lw_gt _ _).mp q))).2.2.2) (by decide) (by decide) ?_
      exact k)
  obtain ⟨fs, hr, hrun, hended, hW, hsame⟩ := X0.leave (v := none) (fun _ => rfl)
  refine ⟨_, _, J1 _ ?_, hrun, hended, _, _, rfl, ?_, ⟨_, rfl⟩, hW, hsame.mono (by decide) (by decide)⟩
  · show Steps p.tables e below (s₁.setTop (mkF m 12 #[.val (.long q1), .second] [])) _
    exact X0.returnOut hx Bd.returns (hb hby d8_12) hr
  · show Q8 Z q1 h0 n0 _ s₁.heap _
    rw [e0]
    exact ⟨rfl, N0, rfl⟩
theorem d5_0 : decode prog_230_method_2_code 0 = .ok (.aload_n 0, 1) := by decide +kernel
theorem d5_1 : decode prog_230_method_2_code 1 = .ok (.invokespecial 7, 3) := by decide +kernel
theorem pd_1 : parseMethodDescriptor "()V" = some ⟨[], none⟩ := by decide +kernel
theorem d5_4 : decode prog_230_method_2_code 4 = .ok (.iload_n 3, 1) := by decide +kernel
theorem d5_5 : decode prog_230_method_2_code 5 = .ok (.iload_n 2, 1) := by decide +kernel
theorem d5_6 : decode prog_230_method_2_code 6 = .ok (.isub, 1) := by decide +kernel
theorem d5_7 : decode prog_230_method_2_code 7 = .ok (.i2l, 1) := by decide +kernel
theorem d5_8 : decode prog_230_method_2_code 8 = .ok (.invokestatic 12, 3) := by decide +kernel
theorem pd_2 : parseMethodDescriptor "(J)V" = some ⟨[.long], none⟩ := by decide +kernel
theorem d5_11 : decode prog_230_method_2_code 11 = .ok (.aload_n 0, 1) := by decide +kernel
theorem d5_12 : decode prog_230_method_2_code 12 = .ok (.aload_n 1, 1) := by decide +kernel
theorem d5_13 : decode prog_230_method_2_code 13 = .ok (.putfield 16, 3) := by decide +kernel
theorem d5_16 : decode prog_230_method_2_code 16 = .ok (.aload_n 0, 1) := by decide +kernel
theorem d5_17 : decode prog_230_method_2_code 17 = .ok (.iload_n 2, 1) := by decide +kernel
theorem d5_18 : decode prog_230_method_2_code 18 = .ok (.putfield 20, 3) := by decide +kernel
theorem d5_21 : decode prog_230_method_2_code 21 = .ok (.aload_n 0, 1) := by decide +kernel
theorem d5_22 : decode prog_230_method_2_code 22 = .ok (.iload_n 3, 1) := by decide +kernel
theorem d5_23 : decode prog_230_method_2_code 23 = .ok (.putfield 24, 3) := by decide +kernel
theorem d5_26 : decode prog_230_method_2_code 26 = .ok (.return_, 1) := by decide +kernel
theorem pn_5 : plainName "com/example/wisteria/wisteria/value/TextValue" = true := by first | (simp [plainName, overriddenIn]; done) | decide +kernel
theorem ef_5_xxxx (m : MethodId) (x0 : Addr) (x1 : Addr) (x2 : Int32) (x3 : Int32) : entryFrame m #[(.ref x0), (.ref x1), (.int x2), (.int x3)] 4 = mkF m 0 #[.val (.ref x0), .val (.ref x1), .val (.int x2), .val (.int x3)] [] := by first | (simp [entryFrame, mkF, argsToLocals, Value.category]; done) | rfl
def Q5 (Z : State) (a1 : Addr) (a2 : Addr) (p3 : Int32) (p4 : Int32) (u1 : Value) (u2 : Value) (u3 : Value) (h0 : Heap) (n0 : Nat) (v : Option Value) (h : Heap) (L : List Loc) : Prop := v = none ∧ Fr n0 L ∧ Keep h0 h [a1] ∧ (Exa Z h a1 "com/example/wisteria/wisteria/value/TextValue") ∧ (Fld Z h a1 "com/example/wisteria/wisteria/value/TextValue" "bytes" "[B" (.ref a2)) ∧ (Fld Z h a1 "com/example/wisteria/wisteria/value/TextValue" "from" "I" (.int p3)) ∧ (Fld Z h a1 "com/example/wisteria/wisteria/value/TextValue" "to" "I" (.int p4))
set_option maxRecDepth 65536 in
set_option maxHeartbeats 40000000 in
theorem rm5 (l : Launch) (Z : State) (a0 : Array Value) (hw : ∀ d ∈ tables_1, d.before a0 Z = true) (ws : List Jvm.Cond) (a1 : Addr) (a2 : Addr) (p3 : Int32) (p4 : Int32) (u1 : Value) (u2 : Value) (u3 : Value) (h0 : Heap) (n0 : Nat) (Z0 : n0 ≤ h0.size) (E_a1 : Exa Z h0 a1 "com/example/wisteria/wisteria/value/TextValue") (g_a1 : n0 ≤ a1) (F_bytes_a1 : Fld Z h0 a1 "com/example/wisteria/wisteria/value/TextValue" "bytes" "[B" u1) (F_from_a1 : Fld Z h0 a1 "com/example/wisteria/wisteria/value/TextValue" "from" "I" u2) (F_to_a1 : Fld Z h0 a1 "com/example/wisteria/wisteria/value/TextValue" "to" "I" u3) (hle : ¬ ((1000000000 : Int64) < (p4 - p3).toInt64)) :
    MetFree l (⟨"com/example/wisteria/wisteria/value/TextValue", "<init>", "([BII)V"⟩ : MethodName) (head1 (Jvm.Cond.code (⟨"com/example/wisteria/wisteria/value/TextValue", "<init>", "([BII)V"⟩ : MethodName) prog_230_method_2_code 4 none :: ws) ({ frames := 2, cells := 0, slots := 0, locals := 24 } : Room)) (fun a U => a = #[(.ref a1), (.ref a2), (.int p3), (.int p4)] ∧ Z.Warmed39 U.vm ∧ U.heap = h0) (fun _ _ _ _ _ => True) (fun _ U o U' => ∃ v L, o = .returned v ∧ Q5 Z a1 a2 p3 p4 u1 u2 u3 h0 n0 v U'.heap L ∧ FrameEnd U o U' L ({ frames := 2, cells := 0, slots := 0, locals := 24 } : Room).cells ({ frames := 2, cells := 0, slots := 0, locals := 24 } : Room).slots) := by
  refine MetFree.of_bodySF (plainFor_of_name pn_5) hisR ?_
  intro p e s m args below meth c s₁ Bd hml0 hP hK
  obtain ⟨rfl, hZ, hh⟩ := hP
  have hx := Bd.exec
  have hby := Bd.bytes
  have hml : c.maxLocals = 4 := hml0
  have hown : s.vm.findClass "com/example/wisteria/wisteria/value/TextValue" = some m.cls := findClass_of_methodNamed Bd.named
  have hnm := (name_of_methodNamed Bd.named Bd.method).1
  have X0 : Stand p l e ({ frames := 2, cells := 0, slots := 0, locals := 24 } : Room) s m #[(.ref a1), (.ref a2), (.int p3), (.int p4)] below meth c s₁ [] 0 0 := Stand.of_body Bd
  have e0 : s₁.heap = h0 := by rw [← hh, Bd.state]; rfl
  have N0 := Fr.nil n0
  have pre0 : ∀ t, Steps p.tables e below (s₁.setTop (mkF m 0 #[.val (.ref a1), .val (.ref a2), .val (.int p3), .val (.int p4)] [])) t → Steps p.tables e below (s₁.setTop (entryFrame m #[(.ref a1), (.ref a2), (.int p3), (.int p4)] 4)) t := fun t k => castTop (ef_5_xxxx m a1 a2 p3 p4) k
  have J1 : ∀ t, Steps p.tables e below (s₁.setTop (mkF m 1 #[.val (.ref a1), .val (.ref a2), .val (.int p3), .val (.int p4)] [(.ref a1)])) t → Steps p.tables e below (s₁.setTop (entryFrame m #[(.ref a1), (.ref a2), (.int p3), (.int p4)] 4)) t := fun t k => pre0 t (by
      show Steps p.tables e below (s₁.setTop (mkF m 0 #[.val (.ref a1), .val (.ref a2), .val (.int p3), .val (.int p4)] [])) _
      refine XS.aloadN X0.here hx rfl (hb hby d5_0) rfl rfl ?_
      exact k)
  obtain ⟨_, _, ⟨T2, L2, k2, n2⟩, -, X2, ⟨Lc2, hQ2, l2, y2, z2⟩, st2⟩ := X0.specialBack hx (y := (⟨"com/example/wisteria/wisteria/value/Value", "<init>", "()V"⟩ : MethodName)) rfl hown (mvT hZ (hw _ (List.mem_of_getElem? (i := 21) rfl))) (mvT hZ (hw _ (List.mem_of_getElem? (i := 22) rfl))) (mvT hZ (hw _ (List.mem_of_getElem? (i := 25) rfl))) (by decide) (backOf (W := 0) (rm6 l Z a0 hw [] a1 h0 n0 Z0 ) hZ (hw _ (List.mem_of_getElem? (i := 25) rfl)) (hw _ (List.mem_of_getElem? (i := 24) rfl)) (by decide) (by decide)) (g := (mkF m 1 #[.val (.ref a1), .val (.ref a2), .val (.int p3), .val (.int p4)] [(.ref a1)])) rfl (by rw [hml]; rfl) (Steps.refl _) (a := a1) (argsL := []) (rest := []) (lenOf pd_1 rfl) rfl (by show 2 * 0 + _ ≤ _; exact Nat.le_of_eq rfl) (hb hby d5_1) (fun _ _ => ⟨rfl, e0, (by decide : 0 + 0 ≤ _), (by decide : 0 + 0 ≤ _)⟩)
  dsimp only [Pt.U, Pt.locs, Pt.cells, Pt.slots] at X2 l2 y2 z2 st2 hQ2
  subst y2 z2
  obtain ⟨rfl, Nq2, e2⟩ := hQ2
  have N3 : Fr n0 L2 := by rw [l2]; exact Fr.app N0 Nq2
  have J4 : ∀ t, Steps p.tables e below (T2.setTop (mkF m 4 #[.val (.ref a1), .val (.ref a2), .val (.int p3), .val (.int p4)] [])) t → Steps p.tables e below (s₁.setTop (entryFrame m #[(.ref a1), (.ref a2), (.int p3), (.int p4)] 4)) t := fun t k => J1 t (st2.trans k)
  have J5 : ∀ t, Steps p.tables e below (T2.setTop (mkF m 8 #[.val (.ref a1), .val (.ref a2), .val (.int p3), .val (.int p4)] [(.long ((p4 - p3).toInt64))])) t → Steps p.tables e below (s₁.setTop (entryFrame m #[(.ref a1), (.ref a2), (.int p3), (.int p4)] 4)) t := fun t k => J4 t (by
      show Steps p.tables e below (T2.setTop (mkF m 4 #[.val (.ref a1), .val (.ref a2), .val (.int p3), .val (.int p4)] [])) _
      refine XS.iloadN X2.here hx rfl (hb hby d5_4) rfl ?_
      show Steps p.tables e below (T2.setTop (mkF m 5 #[.val (.ref a1), .val (.ref a2), .val (.int p3), .val (.int p4)] [(.int p4)])) _
      refine XS.iloadN X2.here hx rfl (hb hby d5_5) rfl ?_
      show Steps p.tables e below (T2.setTop (mkF m 6 #[.val (.ref a1), .val (.ref a2), .val (.int p3), .val (.int p4)] [(.int p3), (.int p4)])) _
      refine XS.isub X2.here hx rfl (hb hby d5_6) rfl ?_
      show Steps p.tables e below (T2.setTop (mkF m 7 #[.val (.ref a1), .val (.ref a2), .val (.int p3), .val (.int p4)] [(.int (p4 - p3))])) _
      refine XS.i2l X2.here hx rfl (hb hby d5_7) rfl ?_
      exact k)
  obtain ⟨mk6, nd6⟩ := Cond.code_named (mvT (args := #[]) hZ (hw _ (List.mem_of_getElem? (i := 32) rfl)))
  obtain ⟨mt6, cM6, hm6, -, -, -, -, -, -, hg6⟩ := Cond.code_spec nd6 (mvT (args := #[]) hZ (hw _ (List.mem_of_getElem? (i := 32) rfl)))
  obtain ⟨_, _, ⟨T6, L6, k6, n6⟩, -, X6, ⟨Lc6, hQ6, l6, y6, z6⟩, st6⟩ := X2.staticBackUp hx (x := (⟨"com/example/wisteria/wisteria/value/TextValue", "checkLength", "(J)V"⟩ : MethodName)) (owner := "com/example/wisteria/wisteria/value/Value") hown (mvT hZ (hw _ (List.mem_of_getElem? (i := 29) rfl))) (mvT hZ (hw _ (List.mem_of_getElem? (i := 30) rfl))) (mvT hZ (hw _ (List.mem_of_getElem? (i := 31) rfl))) (mvT hZ (hw _ (List.mem_of_getElem? (i := 24) rfl))) nd6 hm6 hg6 (by decide) (backOf (W := 0) (rm8 l Z a0 hw [] ((p4 - p3).toInt64) h0 n0 Z0 hle) hZ (hw _ (List.mem_of_getElem? (i := 32) rfl)) (hw _ (List.mem_of_getElem? (i := 24) rfl)) (by decide) (by decide)) (g := (mkF m 8 #[.val (.ref a1), .val (.ref a2), .val (.int p3), .val (.int p4)] [(.long ((p4 - p3).toInt64))])) rfl (by rw [hml]; rfl) (Steps.refl _) (argsL := [(.long ((p4 - p3).toInt64))]) (rest := []) (lenOf pd_2 rfl) rfl (by show 2 * 0 + _ ≤ _; exact Nat.le_of_eq rfl) (hb hby d5_8) (fun _ _ => ⟨rfl, e2, (by decide : 0 + 0 ≤ _), (by decide : 0 + 0 ≤ _)⟩)
  dsimp only [Pt.U, Pt.locs, Pt.cells, Pt.slots] at X6 l6 y6 z6 st6 hQ6
  subst y6 z6
  obtain ⟨rfl, Nq6, e6⟩ := hQ6
  have N7 : Fr n0 L6 := by rw [l6]; exact Fr.app N3 Nq6
  have J8 : ∀ t, Steps p.tables e below (T6.setTop (mkF m 11 #[.val (.ref a1), .val (.ref a2), .val (.int p3), .val (.int p4)] [])) t → Steps p.tables e below (s₁.setTop (entryFrame m #[(.ref a1), (.ref a2), (.int p3), (.int p4)] 4)) t := fun t k => J5 t (st6.trans k)
  have J9 : ∀ t, Steps p.tables e below (T6.setTop (mkF m 13 #[.val (.ref a1), .val (.ref a2), .val (.int p3), .val (.int p4)] [(.ref a2), (.ref a1)])) t → Steps p.tables e below (s₁.setTop (entryFrame m #[(.ref a1), (.ref a2), (.int p3), (.int p4)] 4)) t := fun t k => J8 t (by
      show Steps p.tables e below (T6.setTop (mkF m 11 #[.val (.ref a1), .val (.ref a2), .val (.int p3), .val (.int p4)] [])) _
      refine XS.aloadN X6.here hx rfl (hb hby d5_11) rfl rfl ?_
      show Steps p.tables e below (T6.setTop (mkF m 12 #[.val (.ref a1), .val (.ref a2), .val (.int p3), .val (.int p4)] [(.ref a1)])) _
      refine XS.aloadN X6.here hx rfl (hb hby d5_12) rfl rfl ?_
      exact k)
  obtain ⟨T10, h10, X10, e10, W10, st10⟩ := putF X6 hx hZ hown (host := "") (Or.inl (hw _ (List.mem_of_getElem? (i := 34) rfl))) Via.refl e6 F_bytes_a1 E_a1 (Or.inr ⟨(hw _ (List.mem_of_getElem? (i := 35) rfl)), rfl, hnm⟩) (hw _ (List.mem_of_getElem? (i := 16) rfl)) (ty := (.array .byte)) (by decide) rfl rfl (g := (mkF m 13 #[.val (.ref a1), .val (.ref a2), .val (.int p3), .val (.int p4)] [(.ref a2), (.ref a1)])) rfl rfl (hb hby d5_13)
  have J11 : ∀ t, Steps p.tables e below (T10.setTop (mkF m 16 #[.val (.ref a1), .val (.ref a2), .val (.int p3), .val (.int p4)] [])) t → Steps p.tables e below (s₁.setTop (entryFrame m #[(.ref a1), (.ref a2), (.int p3), (.int p4)] 4)) t := fun t k => J9 t (st10 t k)
  have Z12 : n0 ≤ h10.size := Nat.le_trans Z0 (Keep.of_wr W10).1
  have KK13 : Keep h0 h10 [a1] := (Keep.refl h0 [a1]).wr W10 (Or.inl (List.mem_of_getElem? (i := 0) rfl))
  have N14 := Fr.snoc X10 N7 g_a1
  have Fw10 := F_bytes_a1.same W10
  have J15 : ∀ t, Steps p.tables e below (T10.setTop (mkF m 18 #[.val (.ref a1), .val (.ref a2), .val (.int p3), .val (.int p4)] [(.int p3), (.ref a1)])) t → Steps p.tables e below (s₁.setTop (entryFrame m #[(.ref a1), (.ref a2), (.int p3), (.int p4)] 4)) t := fun t k => J11 t (by
      show Steps p.tables e below (T10.setTop (mkF m 16 #[.val (.ref a1), .val (.ref a2), .val (.int p3), .val (.int p4)] [])) _
      refine XS.aloadN X10.here hx rfl (hb hby d5_16) rfl rfl ?_
      show Steps p.tables e below (T10.setTop (mkF m 17 #[.val (.ref a1), .val (.ref a2), .val (.int p3), .val (.int p4)] [(.ref a1)])) _
      refine XS.iloadN X10.here hx rfl (hb hby d5_17) rfl ?_
      exact k)
  have f16 := F_from_a1.other W10 (Or.inr (slot_ne (Or.inr (hw _ (List.mem_of_getElem? (i := 37) rfl))) (Or.inr (hw _ (List.mem_of_getElem? (i := 35) rfl))) (by decide) (t := .int) (t' := (.array .byte)) (by decide) (by decide)))
  have f17 := E_a1.wr W10
  obtain ⟨T18, h18, X18, e18, W18, st18⟩ := putF X10 hx hZ hown (host := "") (Or.inl (hw _ (List.mem_of_getElem? (i := 36) rfl))) Via.refl e10 f16 f17 (Or.inr ⟨(hw _ (List.mem_of_getElem? (i := 37) rfl)), rfl, hnm⟩) (hw _ (List.mem_of_getElem? (i := 16) rfl)) (ty := .int) (by decide) rfl rfl (g := (mkF m 18 #[.val (.ref a1), .val (.ref a2), .val (.int p3), .val (.int p4)] [(.int p3), (.ref a1)])) rfl rfl (hb hby d5_18)
  have J19 : ∀ t, Steps p.tables e below (T18.setTop (mkF m 21 #[.val (.ref a1), .val (.ref a2), .val (.int p3), .val (.int p4)] [])) t → Steps p.tables e below (s₁.setTop (entryFrame m #[(.ref a1), (.ref a2), (.int p3), (.int p4)] 4)) t := fun t k => J15 t (st18 t k)
  have Z20 : n0 ≤ h18.size := Nat.le_trans Z12 (Keep.of_wr W18).1
  have KK21 : Keep h0 h18 [a1] := KK13.wr W18 (Or.inl (List.mem_of_getElem? (i := 0) rfl))
  have N22 := Fr.snoc X18 N14 g_a1
  have Fw18 := f16.same W18
  have J23 : ∀ t, Steps p.tables e below (T18.setTop (mkF m 23 #[.val (.ref a1), .val (.ref a2), .val (.int p3), .val (.int p4)] [(.int p4), (.ref a1)])) t → Steps p.tables e below (s₁.setTop (entryFrame m #[(.ref a1), (.ref a2), (.int p3), (.int p4)] 4)) t := fun t k => J19 t (by
      show Steps p.tables e below (T18.setTop (mkF m 21 #[.val (.ref a1), .val (.ref a2), .val (.int p3), .val (.int p4)] [])) _
      refine XS.aloadN X18.here hx rfl (hb hby d5_21) rfl rfl ?_
      show Steps p.tables e below (T18.setTop (mkF m 22 #[.val (.ref a1), .val (.ref a2), .val (.int p3), .val (.int p4)] [(.ref a1)])) _
      refine XS.iloadN X18.here hx rfl (hb hby d5_22) rfl ?_
      exact k)
  have f24 := F_to_a1.other W10 (Or.inr (slot_ne (Or.inr (hw _ (List.mem_of_getElem? (i := 39) rfl))) (Or.inr (hw _ (List.mem_of_getElem? (i := 35) rfl))) (by decide) (t := .int) (t' := (.array .byte)) (by decide) (by decide)))
  have f25 := f24.other W18 (Or.inr (slot_ne (Or.inr (hw _ (List.mem_of_getElem? (i := 39) rfl))) (Or.inr (hw _ (List.mem_of_getElem? (i := 37) rfl))) (by decide) (t := .int) (t' := .int) (by decide) (by decide)))
  have f26 := f17.wr W18
  obtain ⟨T27, h27, X27, e27, W27, st27⟩ := putF X18 hx hZ hown (host := "") (Or.inl (hw _ (List.mem_of_getElem? (i := 38) rfl))) Via.refl e18 f25 f26 (Or.inr ⟨(hw _ (List.mem_of_getElem? (i := 39) rfl)), rfl, hnm⟩) (hw _ (List.mem_of_getElem? (i := 16) rfl)) (ty := .int) (by decide) rfl rfl (g := (mkF m 23 #[.val (.ref a1), .val (.ref a2), .val (.int p3), .val (.int p4)] [(.int p4), (.ref a1)])) rfl rfl (hb hby d5_23)
  have J28 : ∀ t, Steps p.tables e below (T27.setTop (mkF m 26 #[.val (.ref a1), .val (.ref a2), .val (.int p3), .val (.int p4)] [])) t → Steps p.tables e below (s₁.setTop (entryFrame m #[(.ref a1), (.ref a2), (.int p3), (.int p4)] 4)) t := fun t k => J23 t (st27 t k)
  have Z29 : n0 ≤ h27.size := Nat.le_trans Z20 (Keep.of_wr W27).1
  have KK30 : Keep h0 h27 [a1] := KK21.wr W27 (Or.inl (List.mem_of_getElem? (i := 0) rfl))
  have N31 := Fr.snoc X27 N22 g_a1
  have Fw27 := f25.same W27
  obtain ⟨fs, hr, hrun, hended, hW, hsame⟩ := X27.leave (v := none) (fun _ => rfl)
  have f32 := f26.wr W27
  have f33 := Fw10.other W18 (Or.inr (slot_ne (Or.inr (hw _ (List.mem_of_getElem? (i := 35) rfl))) (Or.inr (hw _ (List.mem_of_getElem? (i := 37) rfl))) (by decide) (t := (.array .byte)) (t' := .int) (by decide) (by decide)))
  have f34 := f33.other W27 (Or.inr (slot_ne (Or.inr (hw _ (List.mem_of_getElem? (i := 35) rfl))) (Or.inr (hw _ (List.mem_of_getElem? (i := 39) rfl))) (by decide) (t := (.array .byte)) (t' := .int) (by decide) (by decide)))
  have f35 := Fw18.other W27 (Or.inr (slot_ne (Or.inr (hw _ (List.mem_of_getElem? (i := 37) rfl))) (Or.inr (hw _ (List.mem_of_getElem? (i := 39) rfl))) (by decide) (t := .int) (t' := .int) (by decide) (by decide)))
  refine ⟨_, _, J28 _ ?_, hrun, hended, _, _, rfl, ?_, ⟨_, rfl⟩, hW, hsame.mono (by decide) (by decide)⟩
  · show Steps p.tables e below (T27.setTop (mkF m 26 #[.val (.ref a1), .val (.ref a2), .val (.int p3), .val (.int p4)] [])) _
    exact X27.returnOut hx Bd.returns (hb hby d5_26) hr
  · show Q5 Z a1 a2 p3 p4 u1 u2 u3 h0 n0 _ T27.heap _
    rw [e27]
    exact ⟨rfl, N31, KK30, f32, f34, f35, Fw27⟩
theorem d9_49 : decode prog_230_method_12_code 49 = .ok (.iload_n 3, 1) := by decide +kernel
theorem d9_50 : decode prog_230_method_12_code 50 = .ok (.ifCond .eq 33, 3) := by decide +kernel
theorem d9_53 : decode prog_230_method_12_code 53 = .ok (.iload_n 2, 1) := by decide +kernel
theorem d9_54 : decode prog_230_method_12_code 54 = .ok (.aload_n 0, 1) := by decide +kernel
theorem d9_55 : decode prog_230_method_12_code 55 = .ok (.getfield 24, 3) := by decide +kernel
theorem d9_58 : decode prog_230_method_12_code 58 = .ok (.if_icmp .ge 25, 3) := by decide +kernel
section
variable {p : Program} {l : Launch} {e : Env} {R : Room} {s : State} {m : MethodId} {args : Array Value} {below : List Frame} {meth : Method} {c : Code} {Z : State} {a0 : Array Value}
set_option maxRecDepth 65536 in
set_option maxHeartbeats 40000000 in
theorem iA (a1 : Addr) (a2 : Addr) (cl : Cell) (ff : Nat → Int32) (B : Nat) (n : Int32) (i : Nat) {T0 : State} {locs : List Loc} {cells slots : Nat} {h0 : Heap} {n0 : Nat} (X0 : Stand p l e R s m args below meth c T0 locs cells slots) (hx : p.tables.exec = Jvm.exec) (hZ : Z.Warmed39 s.vm) (hw : ∀ d ∈ tables_1, d.before a0 Z = true) (hby : c.code = prog_230_method_12_code) (hml : c.maxLocals = 4) (hown : s.vm.findClass "com/example/wisteria/wisteria/value/TextValue" = some m.cls) (e0 : T0.heap = h0) (N0 : Fr n0 locs) (Z0 : n0 ≤ h0.size) (F_bytes_a1 : Fld Z h0 a1 "com/example/wisteria/wisteria/value/TextValue" "bytes" "[B" (.ref a2)) (F_to_a1 : Fld Z h0 a1 "com/example/wisteria/wisteria/value/TextValue" "to" "I" (.int (Int32.ofNat B))) (Ar_a2 : Arr Z h0 a2 cl .byte) (L : own_BA cl ff) (hB : B ≤ 8) (hi : B ≤ i) (hi8 : i ≤ 8) :
    ∃ (T' : State) (h' : Heap) (locs' : List Loc), Stand p l e R s m args below meth c T' locs' cells slots ∧ T'.heap = h' ∧ Fr n0 locs' ∧ n0 ≤ h'.size ∧ h' = h0 ∧ ∀ t, Steps p.tables e below (T'.setTop (mkF m 83 #[.val (.ref a1), .val (.int n), .val (.int (Int32.ofNat i)), .val (.int (1 : Int32))] [])) t → Steps p.tables e below (T0.setTop (mkF m 49 #[.val (.ref a1), .val (.int n), .val (.int (Int32.ofNat i)), .val (.int (1 : Int32))] [])) t := by
  have J1 : ∀ t, Steps p.tables e below (T0.setTop (mkF m 55 #[.val (.ref a1), .val (.int n), .val (.int (Int32.ofNat i)), .val (.int (1 : Int32))] [(.ref a1), (.int (Int32.ofNat i))])) t → Steps p.tables e below (T0.setTop (mkF m 49 #[.val (.ref a1), .val (.int n), .val (.int (Int32.ofNat i)), .val (.int (1 : Int32))] [])) t := fun t k => id (by
      show Steps p.tables e below (T0.setTop (mkF m 49 #[.val (.ref a1), .val (.int n), .val (.int (Int32.ofNat i)), .val (.int (1 : Int32))] [])) _
      refine XS.iloadN X0.here hx rfl (hb hby d9_49) rfl ?_
      show Steps p.tables e below (T0.setTop (mkF m 50 #[.val (.ref a1), .val (.int n), .val (.int (Int32.ofNat i)), .val (.int (1 : Int32))] [(.int (1 : Int32))])) _
      refine XS.ifNo X0.here hx rfl (hb hby d9_50) rfl ((if0 _ _).trans (feq (by decide)).1) ?_
      show Steps p.tables e below (T0.setTop (mkF m 53 #[.val (.ref a1), .val (.int n), .val (.int (Int32.ofNat i)), .val (.int (1 : Int32))] [])) _
      refine XS.iloadN X0.here hx rfl (hb hby d9_53) rfl ?_
      show Steps p.tables e below (T0.setTop (mkF m 54 #[.val (.ref a1), .val (.int n), .val (.int (Int32.ofNat i)), .val (.int (1 : Int32))] [(.int (Int32.ofNat i))])) _
      refine XS.aloadN X0.here hx rfl (hb hby d9_54) rfl rfl ?_
      exact k)
  obtain ⟨T2, X2, e2, st2⟩ := getF X0 hx hZ hown (host := "") (Or.inl (hw _ (List.mem_of_getElem? (i := 38) rfl))) Via.refl e0 F_to_a1 (g := (mkF m 55 #[.val (.ref a1), .val (.int n), .val (.int (Int32.ofNat i)), .val (.int (1 : Int32))] [(.ref a1), (.int (Int32.ofNat i))])) rfl rfl (hb hby d9_55)
  have J3 : ∀ t, Steps p.tables e below (T2.setTop (mkF m 58 #[.val (.ref a1), .val (.int n), .val (.int (Int32.ofNat i)), .val (.int (1 : Int32))] [(.int (Int32.ofNat B)), (.int (Int32.ofNat i))])) t → Steps p.tables e below (T0.setTop (mkF m 49 #[.val (.ref a1), .val (.int n), .val (.int (Int32.ofNat i)), .val (.int (1 : Int32))] [])) t := fun t k => J1 t (st2 t k)
  have J4 : ∀ t, Steps p.tables e below (T2.setTop (mkF m 83 #[.val (.ref a1), .val (.int n), .val (.int (Int32.ofNat i)), .val (.int (1 : Int32))] [])) t → Steps p.tables e below (T0.setTop (mkF m 49 #[.val (.ref a1), .val (.int n), .val (.int (Int32.ofNat i)), .val (.int (1 : Int32))] [])) t := fun t k => J3 t (by
      show Steps p.tables e below (T2.setTop (mkF m 58 #[.val (.ref a1), .val (.int n), .val (.int (Int32.ofNat i)), .val (.int (1 : Int32))] [(.int (Int32.ofNat B)), (.int (Int32.ofNat i))])) _
      refine XS.icmpYes X2.here hx rfl (pc0 := 58) (pc' := 83) rfl (hb hby d9_58) rfl (flt (own_nlt hi (by omega))).2.1 (by decide) (by decide) ?_
      exact k)
  exact ⟨T2, _, _, X2, e2, N0, Z0, rfl, J4⟩
end
theorem d9_61 : decode prog_230_method_12_code 61 = .ok (.aload_n 0, 1) := by decide +kernel
theorem d9_62 : decode prog_230_method_12_code 62 = .ok (.getfield 16, 3) := by decide +kernel
theorem d9_65 : decode prog_230_method_12_code 65 = .ok (.iload_n 2, 1) := by decide +kernel
theorem d9_66 : decode prog_230_method_12_code 66 = .ok (.baload, 1) := by decide +kernel
theorem d9_67 : decode prog_230_method_12_code 67 = .ok (.sipush 192, 3) := by decide +kernel
theorem d9_70 : decode prog_230_method_12_code 70 = .ok (.iand, 1) := by decide +kernel
theorem d9_71 : decode prog_230_method_12_code 71 = .ok (.sipush 128, 3) := by decide +kernel
theorem d9_74 : decode prog_230_method_12_code 74 = .ok (.if_icmp .ne 9, 3) := by decide +kernel
section
variable {p : Program} {l : Launch} {e : Env} {R : Room} {s : State} {m : MethodId} {args : Array Value} {below : List Frame} {meth : Method} {c : Code} {Z : State} {a0 : Array Value}
set_option maxRecDepth 65536 in
set_option maxHeartbeats 40000000 in
theorem iB (a1 : Addr) (a2 : Addr) (cl : Cell) (ff : Nat → Int32) (B : Nat) (n : Int32) (i : Nat) {T0 : State} {locs : List Loc} {cells slots : Nat} {h0 : Heap} {n0 : Nat} (X0 : Stand p l e R s m args below meth c T0 locs cells slots) (hx : p.tables.exec = Jvm.exec) (hZ : Z.Warmed39 s.vm) (hw : ∀ d ∈ tables_1, d.before a0 Z = true) (hby : c.code = prog_230_method_12_code) (hml : c.maxLocals = 4) (hown : s.vm.findClass "com/example/wisteria/wisteria/value/TextValue" = some m.cls) (e0 : T0.heap = h0) (N0 : Fr n0 locs) (Z0 : n0 ≤ h0.size) (F_bytes_a1 : Fld Z h0 a1 "com/example/wisteria/wisteria/value/TextValue" "bytes" "[B" (.ref a2)) (F_to_a1 : Fld Z h0 a1 "com/example/wisteria/wisteria/value/TextValue" "to" "I" (.int (Int32.ofNat B))) (Ar_a2 : Arr Z h0 a2 cl .byte) (L : own_BA cl ff) (hB : B ≤ 8) (hi : i < B) (hc : ¬ own_cont (ff i) = true) :
    ∃ (T' : State) (h' : Heap) (locs' : List Loc), Stand p l e R s m args below meth c T' locs' cells slots ∧ T'.heap = h' ∧ Fr n0 locs' ∧ n0 ≤ h'.size ∧ h' = h0 ∧ ∀ t, Steps p.tables e below (T'.setTop (mkF m 83 #[.val (.ref a1), .val (.int n), .val (.int (Int32.ofNat i)), .val (.int (1 : Int32))] [])) t → Steps p.tables e below (T0.setTop (mkF m 49 #[.val (.ref a1), .val (.int n), .val (.int (Int32.ofNat i)), .val (.int (1 : Int32))] [])) t := by
  have J1 : ∀ t, Steps p.tables e below (T0.setTop (mkF m 55 #[.val (.ref a1), .val (.int n), .val (.int (Int32.ofNat i)), .val (.int (1 : Int32))] [(.ref a1), (.int (Int32.ofNat i))])) t → Steps p.tables e below (T0.setTop (mkF m 49 #[.val (.ref a1), .val (.int n), .val (.int (Int32.ofNat i)), .val (.int (1 : Int32))] [])) t := fun t k => id (by
      show Steps p.tables e below (T0.setTop (mkF m 49 #[.val (.ref a1), .val (.int n), .val (.int (Int32.ofNat i)), .val (.int (1 : Int32))] [])) _
      refine XS.iloadN X0.here hx rfl (hb hby d9_49) rfl ?_
      show Steps p.tables e below (T0.setTop (mkF m 50 #[.val (.ref a1), .val (.int n), .val (.int (Int32.ofNat i)), .val (.int (1 : Int32))] [(.int (1 : Int32))])) _
      refine XS.ifNo X0.here hx rfl (hb hby d9_50) rfl ((if0 _ _).trans (feq (by decide)).1) ?_
      show Steps p.tables e below (T0.setTop (mkF m 53 #[.val (.ref a1), .val (.int n), .val (.int (Int32.ofNat i)), .val (.int (1 : Int32))] [])) _
      refine XS.iloadN X0.here hx rfl (hb hby d9_53) rfl ?_
      show Steps p.tables e below (T0.setTop (mkF m 54 #[.val (.ref a1), .val (.int n), .val (.int (Int32.ofNat i)), .val (.int (1 : Int32))] [(.int (Int32.ofNat i))])) _
      refine XS.aloadN X0.here hx rfl (hb hby d9_54) rfl rfl ?_
      exact k)
  obtain ⟨T2, X2, e2, st2⟩ := getF X0 hx hZ hown (host := "") (Or.inl (hw _ (List.mem_of_getElem? (i := 38) rfl))) Via.refl e0 F_to_a1 (g := (mkF m 55 #[.val (.ref a1), .val (.int n), .val (.int (Int32.ofNat i)), .val (.int (1 : Int32))] [(.ref a1), (.int (Int32.ofNat i))])) rfl rfl (hb hby d9_55)
  have J3 : ∀ t, Steps p.tables e below (T2.setTop (mkF m 58 #[.val (.ref a1), .val (.int n), .val (.int (Int32.ofNat i)), .val (.int (1 : Int32))] [(.int (Int32.ofNat B)), (.int (Int32.ofNat i))])) t → Steps p.tables e below (T0.setTop (mkF m 49 #[.val (.ref a1), .val (.int n), .val (.int (Int32.ofNat i)), .val (.int (1 : Int32))] [])) t := fun t k => J1 t (st2 t k)
  have J4 : ∀ t, Steps p.tables e below (T2.setTop (mkF m 62 #[.val (.ref a1), .val (.int n), .val (.int (Int32.ofNat i)), .val (.int (1 : Int32))] [(.ref a1)])) t → Steps p.tables e below (T0.setTop (mkF m 49 #[.val (.ref a1), .val (.int n), .val (.int (Int32.ofNat i)), .val (.int (1 : Int32))] [])) t := fun t k => J3 t (by
      show Steps p.tables e below (T2.setTop (mkF m 58 #[.val (.ref a1), .val (.int n), .val (.int (Int32.ofNat i)), .val (.int (1 : Int32))] [(.int (Int32.ofNat B)), (.int (Int32.ofNat i))])) _
      refine XS.icmpNo X2.here hx rfl (hb hby d9_58) rfl (tlt (own_lt hi (by omega))).2.1 ?_
      show Steps p.tables e below (T2.setTop (mkF m 61 #[.val (.ref a1), .val (.int n), .val (.int (Int32.ofNat i)), .val (.int (1 : Int32))] [])) _
      refine XS.aloadN X2.here hx rfl (hb hby d9_61) rfl rfl ?_
      exact k)
  obtain ⟨T5, X5, e5, st5⟩ := getF X2 hx hZ hown (host := "") (Or.inl (hw _ (List.mem_of_getElem? (i := 34) rfl))) Via.refl e2 F_bytes_a1 (g := (mkF m 62 #[.val (.ref a1), .val (.int n), .val (.int (Int32.ofNat i)), .val (.int (1 : Int32))] [(.ref a1)])) rfl rfl (hb hby d9_62)
  have J6 : ∀ t, Steps p.tables e below (T5.setTop (mkF m 65 #[.val (.ref a1), .val (.int n), .val (.int (Int32.ofNat i)), .val (.int (1 : Int32))] [(.ref a2)])) t → Steps p.tables e below (T0.setTop (mkF m 49 #[.val (.ref a1), .val (.int n), .val (.int (Int32.ofNat i)), .val (.int (1 : Int32))] [])) t := fun t k => J4 t (st5 t k)
  have J7 : ∀ t, Steps p.tables e below (T5.setTop (mkF m 83 #[.val (.ref a1), .val (.int n), .val (.int (Int32.ofNat i)), .val (.int (1 : Int32))] [])) t → Steps p.tables e below (T0.setTop (mkF m 49 #[.val (.ref a1), .val (.int n), .val (.int (Int32.ofNat i)), .val (.int (1 : Int32))] [])) t := fun t k => J6 t (by
      show Steps p.tables e below (T5.setTop (mkF m 65 #[.val (.ref a1), .val (.int n), .val (.int (Int32.ofNat i)), .val (.int (1 : Int32))] [(.ref a2)])) _
      refine XS.iloadN X5.here hx rfl (hb hby d9_65) rfl ?_
      show Steps p.tables e below (T5.setTop (mkF m 66 #[.val (.ref a1), .val (.int n), .val (.int (Int32.ofNat i)), .val (.int (1 : Int32))] [(.int (Int32.ofNat i)), (.ref a2)])) _
      refine X5.baloadBytes hx (j := (Int32.ofNat i)) (v := (.int (ff i))) (by rw [e5]; exact Ar_a2.1) (State.isArrayOf_alike hZ.alike Ar_a2.2.1) Ar_a2.2.2 (own_inN L (by omega)) (own_at L (by omega)) (g := (mkF m 66 #[.val (.ref a1), .val (.int n), .val (.int (Int32.ofNat i)), .val (.int (1 : Int32))] [(.int (Int32.ofNat i)), (.ref a2)])) rfl rfl (hb hby d9_66) _ ?_
      show Steps p.tables e below (T5.setTop (mkF m 67 #[.val (.ref a1), .val (.int n), .val (.int (Int32.ofNat i)), .val (.int (1 : Int32))] [(.int (ff i))])) _
      refine XS.sipush X5.here hx rfl (hb hby d9_67) ?_
      show Steps p.tables e below (T5.setTop (mkF m 70 #[.val (.ref a1), .val (.int n), .val (.int (Int32.ofNat i)), .val (.int (1 : Int32))] [(.int (192 : Int32)), (.int (ff i))])) _
      refine XS.iand X5.here hx rfl (hb hby d9_70) rfl ?_
      show Steps p.tables e below (T5.setTop (mkF m 71 #[.val (.ref a1), .val (.int n), .val (.int (Int32.ofNat i)), .val (.int (1 : Int32))] [(.int ((ff i) &&& (192 : Int32)))])) _
      refine XS.sipush X5.here hx rfl (hb hby d9_71) ?_
      show Steps p.tables e below (T5.setTop (mkF m 74 #[.val (.ref a1), .val (.int n), .val (.int (Int32.ofNat i)), .val (.int (1 : Int32))] [(.int (128 : Int32)), (.int ((ff i) &&& (192 : Int32)))])) _
      refine XS.icmpYes X5.here hx rfl (pc0 := 74) (pc' := 83) rfl (hb hby d9_74) rfl (feq (fun q => hc (decide_eq_true q))).2 (by decide) (by decide) ?_
      exact k)
  exact ⟨T5, _, _, X5, e5, N0, Z0, rfl, J7⟩
end
theorem d9_77 : decode prog_230_method_12_code 77 = .ok (.iinc 2 1, 3) := by decide +kernel
theorem d9_80 : decode prog_230_method_12_code 80 = .ok (.goto (-31), 3) := by decide +kernel
section
variable {p : Program} {l : Launch} {e : Env} {R : Room} {s : State} {m : MethodId} {args : Array Value} {below : List Frame} {meth : Method} {c : Code} {Z : State} {a0 : Array Value}
set_option maxRecDepth 65536 in
set_option maxHeartbeats 40000000 in
theorem iC (a1 : Addr) (a2 : Addr) (cl : Cell) (ff : Nat → Int32) (B : Nat) (n : Int32) (i : Nat) {T0 : State} {locs : List Loc} {cells slots : Nat} {h0 : Heap} {n0 : Nat} (X0 : Stand p l e R s m args below meth c T0 locs cells slots) (hx : p.tables.exec = Jvm.exec) (hZ : Z.Warmed39 s.vm) (hw : ∀ d ∈ tables_1, d.before a0 Z = true) (hby : c.code = prog_230_method_12_code) (hml : c.maxLocals = 4) (hown : s.vm.findClass "com/example/wisteria/wisteria/value/TextValue" = some m.cls) (e0 : T0.heap = h0) (N0 : Fr n0 locs) (Z0 : n0 ≤ h0.size) (F_bytes_a1 : Fld Z h0 a1 "com/example/wisteria/wisteria/value/TextValue" "bytes" "[B" (.ref a2)) (F_to_a1 : Fld Z h0 a1 "com/example/wisteria/wisteria/value/TextValue" "to" "I" (.int (Int32.ofNat B))) (Ar_a2 : Arr Z h0 a2 cl .byte) (L : own_BA cl ff) (hB : B ≤ 8) (hi : i < B) (hc : own_cont (ff i) = true) :
    ∃ (T' : State) (h' : Heap) (locs' : List Loc), Stand p l e R s m args below meth c T' locs' cells slots ∧ T'.heap = h' ∧ Fr n0 locs' ∧ n0 ≤ h'.size ∧ h' = h0 ∧ ∀ t, Steps p.tables e below (T'.setTop (mkF m 49 #[.val (.ref a1), .val (.int n), .val (.int ((Int32.ofNat i) + (1 : Int32))), .val (.int (1 : Int32))] [])) t → Steps p.tables e below (T0.setTop (mkF m 49 #[.val (.ref a1), .val (.int n), .val (.int (Int32.ofNat i)), .val (.int (1 : Int32))] [])) t := by
  have J1 : ∀ t, Steps p.tables e below (T0.setTop (mkF m 55 #[.val (.ref a1), .val (.int n), .val (.int (Int32.ofNat i)), .val (.int (1 : Int32))] [(.ref a1), (.int (Int32.ofNat i))])) t → Steps p.tables e below (T0.setTop (mkF m 49 #[.val (.ref a1), .val (.int n), .val (.int (Int32.ofNat i)), .val (.int (1 : Int32))] [])) t := fun t k => id (by
      show Steps p.tables e below (T0.setTop (mkF m 49 #[.val (.ref a1), .val (.int n), .val (.int (Int32.ofNat i)), .val (.int (1 : Int32))] [])) _
      refine XS.iloadN X0.here hx rfl (hb hby d9_49) rfl ?_
      show Steps p.tables e below (T0.setTop (mkF m 50 #[.val (.ref a1), .val (.int n), .val (.int (Int32.ofNat i)), .val (.int (1 : Int32))] [(.int (1 : Int32))])) _
      refine XS.ifNo X0.here hx rfl (hb hby d9_50) rfl ((if0 _ _).trans (feq (by decide)).1) ?_
      show Steps p.tables e below (T0.setTop (mkF m 53 #[.val (.ref a1), .val (.int n), .val (.int (Int32.ofNat i)), .val (.int (1 : Int32))] [])) _
      refine XS.iloadN X0.here hx rfl (hb hby d9_53) rfl ?_
      show Steps p.tables e below (T0.setTop (mkF m 54 #[.val (.ref a1), .val (.int n), .val (.int (Int32.ofNat i)), .val (.int (1 : Int32))] [(.int (Int32.ofNat i))])) _
      refine XS.aloadN X0.here hx rfl (hb hby d9_54) rfl rfl ?_
      exact k)
  obtain ⟨T2, X2, e2, st2⟩ := getF X0 hx hZ hown (host := "") (Or.inl (hw _ (List.mem_of_getElem? (i := 38) rfl))) Via.refl e0 F_to_a1 (g := (mkF m 55 #[.val (.ref a1), .val (.int n), .val (.int (Int32.ofNat i)), .val (.int (1 : Int32))] [(.ref a1), (.int (Int32.ofNat i))])) rfl rfl (hb hby d9_55)
  have J3 : ∀ t, Steps p.tables e below (T2.setTop (mkF m 58 #[.val (.ref a1), .val (.int n), .val (.int (Int32.ofNat i)), .val (.int (1 : Int32))] [(.int (Int32.ofNat B)), (.int (Int32.ofNat i))])) t → Steps p.tables e below (T0.setTop (mkF m 49 #[.val (.ref a1), .val (.int n), .val (.int (Int32.ofNat i)), .val (.int (1 : Int32))] [])) t := fun t k => J1 t (st2 t k)
  have J4 : ∀ t, Steps p.tables e below (T2.setTop (mkF m 62 #[.val (.ref a1), .val (.int n), .val (.int (Int32.ofNat i)), .val (.int (1 : Int32))] [(.ref a1)])) t → Steps p.tables e below (T0.setTop (mkF m 49 #[.val (.ref a1), .val (.int n), .val (.int (Int32.ofNat i)), .val (.int (1 : Int32))] [])) t := fun t k => J3 t (by
      show Steps p.tables e below (T2.setTop (mkF m 58 #[.val (.ref a1), .val (.int n), .val (.int (Int32.ofNat i)), .val (.int (1 : Int32))] [(.int (Int32.ofNat B)), (.int (Int32.ofNat i))])) _
      refine XS.icmpNo X2.here hx rfl (hb hby d9_58) rfl (tlt (own_lt hi (by omega))).2.1 ?_
      show Steps p.tables e below (T2.setTop (mkF m 61 #[.val (.ref a1), .val (.int n), .val (.int (Int32.ofNat i)), .val (.int (1 : Int32))] [])) _
      refine XS.aloadN X2.here hx rfl (hb hby d9_61) rfl rfl ?_
      exact k)
  obtain ⟨T5, X5, e5, st5⟩ := getF X2 hx hZ hown (host := "") (Or.inl (hw _ (List.mem_of_getElem? (i := 34) rfl))) Via.refl e2 F_bytes_a1 (g := (mkF m 62 #[.val (.ref a1), .val (.int n), .val (.int (Int32.ofNat i)), .val (.int (1 : Int32))] [(.ref a1)])) rfl rfl (hb hby d9_62)
  have J6 : ∀ t, Steps p.tables e below (T5.setTop (mkF m 65 #[.val (.ref a1), .val (.int n), .val (.int (Int32.ofNat i)), .val (.int (1 : Int32))] [(.ref a2)])) t → Steps p.tables e below (T0.setTop (mkF m 49 #[.val (.ref a1), .val (.int n), .val (.int (Int32.ofNat i)), .val (.int (1 : Int32))] [])) t := fun t k => J4 t (st5 t k)
  have J7 : ∀ t, Steps p.tables e below (T5.setTop (mkF m 49 #[.val (.ref a1), .val (.int n), .val (.int ((Int32.ofNat i) + (1 : Int32))), .val (.int (1 : Int32))] [])) t → Steps p.tables e below (T0.setTop (mkF m 49 #[.val (.ref a1), .val (.int n), .val (.int (Int32.ofNat i)), .val (.int (1 : Int32))] [])) t := fun t k => J6 t (by
      show Steps p.tables e below (T5.setTop (mkF m 65 #[.val (.ref a1), .val (.int n), .val (.int (Int32.ofNat i)), .val (.int (1 : Int32))] [(.ref a2)])) _
      refine XS.iloadN X5.here hx rfl (hb hby d9_65) rfl ?_
      show Steps p.tables e below (T5.setTop (mkF m 66 #[.val (.ref a1), .val (.int n), .val (.int (Int32.ofNat i)), .val (.int (1 : Int32))] [(.int (Int32.ofNat i)), (.ref a2)])) _
      refine X5.baloadBytes hx (j := (Int32.ofNat i)) (v := (.int (ff i))) (by rw [e5]; exact Ar_a2.1) (State.isArrayOf_alike hZ.alike Ar_a2.2.1) Ar_a2.2.2 (own_inN L (by omega)) (own_at L (by omega)) (g := (mkF m 66 #[.val (.ref a1), .val (.int n), .val (.int (Int32.ofNat i)), .val (.int (1 : Int32))] [(.int (Int32.ofNat i)), (.ref a2)])) rfl rfl (hb hby d9_66) _ ?_
      show Steps p.tables e below (T5.setTop (mkF m 67 #[.val (.ref a1), .val (.int n), .val (.int (Int32.ofNat i)), .val (.int (1 : Int32))] [(.int (ff i))])) _
      refine XS.sipush X5.here hx rfl (hb hby d9_67) ?_
      show Steps p.tables e below (T5.setTop (mkF m 70 #[.val (.ref a1), .val (.int n), .val (.int (Int32.ofNat i)), .val (.int (1 : Int32))] [(.int (192 : Int32)), (.int (ff i))])) _
      refine XS.iand X5.here hx rfl (hb hby d9_70) rfl ?_
      show Steps p.tables e below (T5.setTop (mkF m 71 #[.val (.ref a1), .val (.int n), .val (.int (Int32.ofNat i)), .val (.int (1 : Int32))] [(.int ((ff i) &&& (192 : Int32)))])) _
      refine XS.sipush X5.here hx rfl (hb hby d9_71) ?_
      show Steps p.tables e below (T5.setTop (mkF m 74 #[.val (.ref a1), .val (.int n), .val (.int (Int32.ofNat i)), .val (.int (1 : Int32))] [(.int (128 : Int32)), (.int ((ff i) &&& (192 : Int32)))])) _
      refine XS.icmpNo X5.here hx rfl (hb hby d9_74) rfl (teq (of_decide_eq_true hc)).2 ?_
      show Steps p.tables e below (T5.setTop (mkF m 77 #[.val (.ref a1), .val (.int n), .val (.int (Int32.ofNat i)), .val (.int (1 : Int32))] [])) _
      refine XS.iinc X5.here hx rfl (hb hby d9_77) rfl (l' := #[.val (.ref a1), .val (.int n), .val (.int ((Int32.ofNat i) + (1 : Int32))), .val (.int (1 : Int32))]) rfl ?_
      show Steps p.tables e below (T5.setTop (mkF m 80 #[.val (.ref a1), .val (.int n), .val (.int ((Int32.ofNat i) + (1 : Int32))), .val (.int (1 : Int32))] [])) _
      refine XS.goto X5.here hx rfl (pc0 := 80) (pc' := 49) rfl (hb hby d9_80) (by decide) (by decide) ?_
      exact k)
  exact ⟨T5, _, _, X5, e5, N0, Z0, rfl, J7⟩
end
theorem d9_7 : decode prog_230_method_12_code 7 = .ok (.iload_n 2, 1) := by decide +kernel
theorem d9_8 : decode prog_230_method_12_code 8 = .ok (.aload_n 0, 1) := by decide +kernel
theorem d9_9 : decode prog_230_method_12_code 9 = .ok (.getfield 24, 3) := by decide +kernel
theorem d9_12 : decode prog_230_method_12_code 12 = .ok (.if_icmp .ge 77, 3) := by decide +kernel
section
variable {p : Program} {l : Launch} {e : Env} {R : Room} {s : State} {m : MethodId} {args : Array Value} {below : List Frame} {meth : Method} {c : Code} {Z : State} {a0 : Array Value}
set_option maxRecDepth 65536 in
set_option maxHeartbeats 40000000 in
theorem oA (a1 : Addr) (a2 : Addr) (cl : Cell) (ff : Nat → Int32) (B : Nat) (n : Int32) (i : Nat) (s3 : Slot) {T0 : State} {locs : List Loc} {cells slots : Nat} {h0 : Heap} {n0 : Nat} (X0 : Stand p l e R s m args below meth c T0 locs cells slots) (hx : p.tables.exec = Jvm.exec) (hZ : Z.Warmed39 s.vm) (hw : ∀ d ∈ tables_1, d.before a0 Z = true) (hby : c.code = prog_230_method_12_code) (hml : c.maxLocals = 4) (hown : s.vm.findClass "com/example/wisteria/wisteria/value/TextValue" = some m.cls) (e0 : T0.heap = h0) (N0 : Fr n0 locs) (Z0 : n0 ≤ h0.size) (F_bytes_a1 : Fld Z h0 a1 "com/example/wisteria/wisteria/value/TextValue" "bytes" "[B" (.ref a2)) (F_to_a1 : Fld Z h0 a1 "com/example/wisteria/wisteria/value/TextValue" "to" "I" (.int (Int32.ofNat B))) (Ar_a2 : Arr Z h0 a2 cl .byte) (L : own_BA cl ff) (hB : B ≤ 8) (hi : B ≤ i) (hi8 : i ≤ 8) :
    ∃ (T' : State) (h' : Heap) (locs' : List Loc), Stand p l e R s m args below meth c T' locs' cells slots ∧ T'.heap = h' ∧ Fr n0 locs' ∧ n0 ≤ h'.size ∧ h' = h0 ∧ ∀ t, Steps p.tables e below (T'.setTop (mkF m 89 #[.val (.ref a1), .val (.int n), .val (.int (Int32.ofNat i)), s3] [])) t → Steps p.tables e below (T0.setTop (mkF m 7 #[.val (.ref a1), .val (.int n), .val (.int (Int32.ofNat i)), s3] [])) t := by
  have J1 : ∀ t, Steps p.tables e below (T0.setTop (mkF m 9 #[.val (.ref a1), .val (.int n), .val (.int (Int32.ofNat i)), s3] [(.ref a1), (.int (Int32.ofNat i))])) t → Steps p.tables e below (T0.setTop (mkF m 7 #[.val (.ref a1), .val (.int n), .val (.int (Int32.ofNat i)), s3] [])) t := fun t k => id (by
      show Steps p.tables e below (T0.setTop (mkF m 7 #[.val (.ref a1), .val (.int n), .val (.int (Int32.ofNat i)), s3] [])) _
      refine XS.iloadN X0.here hx rfl (hb hby d9_7) rfl ?_
      show Steps p.tables e below (T0.setTop (mkF m 8 #[.val (.ref a1), .val (.int n), .val (.int (Int32.ofNat i)), s3] [(.int (Int32.ofNat i))])) _
      refine XS.aloadN X0.here hx rfl (hb hby d9_8) rfl rfl ?_
      exact k)
  obtain ⟨T2, X2, e2, st2⟩ := getF X0 hx hZ hown (host := "") (Or.inl (hw _ (List.mem_of_getElem? (i := 38) rfl))) Via.refl e0 F_to_a1 (g := (mkF m 9 #[.val (.ref a1), .val (.int n), .val (.int (Int32.ofNat i)), s3] [(.ref a1), (.int (Int32.ofNat i))])) rfl rfl (hb hby d9_9)
  have J3 : ∀ t, Steps p.tables e below (T2.setTop (mkF m 12 #[.val (.ref a1), .val (.int n), .val (.int (Int32.ofNat i)), s3] [(.int (Int32.ofNat B)), (.int (Int32.ofNat i))])) t → Steps p.tables e below (T0.setTop (mkF m 7 #[.val (.ref a1), .val (.int n), .val (.int (Int32.ofNat i)), s3] [])) t := fun t k => J1 t (st2 t k)
  have J4 : ∀ t, Steps p.tables e below (T2.setTop (mkF m 89 #[.val (.ref a1), .val (.int n), .val (.int (Int32.ofNat i)), s3] [])) t → Steps p.tables e below (T0.setTop (mkF m 7 #[.val (.ref a1), .val (.int n), .val (.int (Int32.ofNat i)), s3] [])) t := fun t k => J3 t (by
      show Steps p.tables e below (T2.setTop (mkF m 12 #[.val (.ref a1), .val (.int n), .val (.int (Int32.ofNat i)), s3] [(.int (Int32.ofNat B)), (.int (Int32.ofNat i))])) _
      refine XS.icmpYes X2.here hx rfl (pc0 := 12) (pc' := 89) rfl (hb hby d9_12) rfl (flt (own_nlt hi (by omega))).2.1 (by decide) (by decide) ?_
      exact k)
  exact ⟨T2, _, _, X2, e2, N0, Z0, rfl, J4⟩
end
theorem d9_15 : decode prog_230_method_12_code 15 = .ok (.aload_n 0, 1) := by decide +kernel
theorem d9_16 : decode prog_230_method_12_code 16 = .ok (.getfield 16, 3) := by decide +kernel
theorem d9_19 : decode prog_230_method_12_code 19 = .ok (.iload_n 2, 1) := by decide +kernel
theorem d9_20 : decode prog_230_method_12_code 20 = .ok (.baload, 1) := by decide +kernel
theorem d9_21 : decode prog_230_method_12_code 21 = .ok (.ifCond .eq 68, 3) := by decide +kernel
section
variable {p : Program} {l : Launch} {e : Env} {R : Room} {s : State} {m : MethodId} {args : Array Value} {below : List Frame} {meth : Method} {c : Code} {Z : State} {a0 : Array Value}
set_option maxRecDepth 65536 in
set_option maxHeartbeats 40000000 in
theorem oB (a1 : Addr) (a2 : Addr) (cl : Cell) (ff : Nat → Int32) (B : Nat) (n : Int32) (i : Nat) (s3 : Slot) {T0 : State} {locs : List Loc} {cells slots : Nat} {h0 : Heap} {n0 : Nat} (X0 : Stand p l e R s m args below meth c T0 locs cells slots) (hx : p.tables.exec = Jvm.exec) (hZ : Z.Warmed39 s.vm) (hw : ∀ d ∈ tables_1, d.before a0 Z = true) (hby : c.code = prog_230_method_12_code) (hml : c.maxLocals = 4) (hown : s.vm.findClass "com/example/wisteria/wisteria/value/TextValue" = some m.cls) (e0 : T0.heap = h0) (N0 : Fr n0 locs) (Z0 : n0 ≤ h0.size) (F_bytes_a1 : Fld Z h0 a1 "com/example/wisteria/wisteria/value/TextValue" "bytes" "[B" (.ref a2)) (F_to_a1 : Fld Z h0 a1 "com/example/wisteria/wisteria/value/TextValue" "to" "I" (.int (Int32.ofNat B))) (Ar_a2 : Arr Z h0 a2 cl .byte) (L : own_BA cl ff) (hB : B ≤ 8) (hi : i < B) (hz : ff i = 0) :
    ∃ (T' : State) (h' : Heap) (locs' : List Loc), Stand p l e R s m args below meth c T' locs' cells slots ∧ T'.heap = h' ∧ Fr n0 locs' ∧ n0 ≤ h'.size ∧ h' = h0 ∧ ∀ t, Steps p.tables e below (T'.setTop (mkF m 89 #[.val (.ref a1), .val (.int n), .val (.int (Int32.ofNat i)), s3] [])) t → Steps p.tables e below (T0.setTop (mkF m 7 #[.val (.ref a1), .val (.int n), .val (.int (Int32.ofNat i)), s3] [])) t := by
  have J1 : ∀ t, Steps p.tables e below (T0.setTop (mkF m 9 #[.val (.ref a1), .val (.int n), .val (.int (Int32.ofNat i)), s3] [(.ref a1), (.int (Int32.ofNat i))])) t → Steps p.tables e below (T0.setTop (mkF m 7 #[.val (.ref a1), .val (.int n), .val (.int (Int32.ofNat i)), s3] [])) t := fun t k => id (by
      show Steps p.tables e below (T0.setTop (mkF m 7 #[.val (.ref a1), .val (.int n), .val (.int (Int32.ofNat i)), s3] [])) _
      refine XS.iloadN X0.here hx rfl (hb hby d9_7) rfl ?_
      show Steps p.tables e below (T0.setTop (mkF m 8 #[.val (.ref a1), .val (.int n), .val (.int (Int32.ofNat i)), s3] [(.int (Int32.ofNat i))])) _
      refine XS.aloadN X0.here hx rfl (hb hby d9_8) rfl rfl ?_
      exact k)
  obtain ⟨T2, X2, e2, st2⟩ := getF X0 hx hZ hown (host := "") (Or.inl (hw _ (List.mem_of_getElem? (i := 38) rfl))) Via.refl e0 F_to_a1 (g := (mkF m 9 #[.val (.ref a1), .val (.int n), .val (.int (Int32.ofNat i)), s3] [(.ref a1), (.int (Int32.ofNat i))])) rfl rfl (hb hby d9_9)
  have J3 : ∀ t, Steps p.tables e below (T2.setTop (mkF m 12 #[.val (.ref a1), .val (.int n), .val (.int (Int32.ofNat i)), s3] [(.int (Int32.ofNat B)), (.int (Int32.ofNat i))])) t → Steps p.tables e below (T0.setTop (mkF m 7 #[.val (.ref a1), .val (.int n), .val (.int (Int32.ofNat i)), s3] [])) t := fun t k => J1 t (st2 t k)
  have J4 : ∀ t, Steps p.tables e below (T2.setTop (mkF m 16 #[.val (.ref a1), .val (.int n), .val (.int (Int32.ofNat i)), s3] [(.ref a1)])) t → Steps p.tables e below (T0.setTop (mkF m 7 #[.val (.ref a1), .val (.int n), .val (.int (Int32.ofNat i)), s3] [])) t := fun t k => J3 t (by
      show Steps p.tables e below (T2.setTop (mkF m 12 #[.val (.ref a1), .val (.int n), .val (.int (Int32.ofNat i)), s3] [(.int (Int32.ofNat B)), (.int (Int32.ofNat i))])) _
      refine XS.icmpNo X2.here hx rfl (hb hby d9_12) rfl (tlt (own_lt hi (by omega))).2.1 ?_
      show Steps p.tables e below (T2.setTop (mkF m 15 #[.val (.ref a1), .val (.int n), .val (.int (Int32.ofNat i)), s3] [])) _
      refine XS.aloadN X2.here hx rfl (hb hby d9_15) rfl rfl ?_
      exact k)
  obtain ⟨T5, X5, e5, st5⟩ := getF X2 hx hZ hown (host := "") (Or.inl (hw _ (List.mem_of_getElem? (i := 34) rfl))) Via.refl e2 F_bytes_a1 (g := (mkF m 16 #[.val (.ref a1), .val (.int n), .val (.int (Int32.ofNat i)), s3] [(.ref a1)])) rfl rfl (hb hby d9_16)
  have J6 : ∀ t, Steps p.tables e below (T5.setTop (mkF m 19 #[.val (.ref a1), .val (.int n), .val (.int (Int32.ofNat i)), s3] [(.ref a2)])) t → Steps p.tables e below (T0.setTop (mkF m 7 #[.val (.ref a1), .val (.int n), .val (.int (Int32.ofNat i)), s3] [])) t := fun t k => J4 t (st5 t k)
  have J7 : ∀ t, Steps p.tables e below (T5.setTop (mkF m 89 #[.val (.ref a1), .val (.int n), .val (.int (Int32.ofNat i)), s3] [])) t → Steps p.tables e below (T0.setTop (mkF m 7 #[.val (.ref a1), .val (.int n), .val (.int (Int32.ofNat i)), s3] [])) t := fun t k => J6 t (by
      show Steps p.tables e below (T5.setTop (mkF m 19 #[.val (.ref a1), .val (.int n), .val (.int (Int32.ofNat i)), s3] [(.ref a2)])) _
      refine XS.iloadN X5.here hx rfl (hb hby d9_19) rfl ?_
      show Steps p.tables e below (T5.setTop (mkF m 20 #[.val (.ref a1), .val (.int n), .val (.int (Int32.ofNat i)), s3] [(.int (Int32.ofNat i)), (.ref a2)])) _
      refine X5.baloadBytes hx (j := (Int32.ofNat i)) (v := (.int (ff i))) (by rw [e5]; exact Ar_a2.1) (State.isArrayOf_alike hZ.alike Ar_a2.2.1) Ar_a2.2.2 (own_inN L (by omega)) (own_at L (by omega)) (g := (mkF m 20 #[.val (.ref a1), .val (.int n), .val (.int (Int32.ofNat i)), s3] [(.int (Int32.ofNat i)), (.ref a2)])) rfl rfl (hb hby d9_20) _ ?_
      show Steps p.tables e below (T5.setTop (mkF m 21 #[.val (.ref a1), .val (.int n), .val (.int (Int32.ofNat i)), s3] [(.int (ff i))])) _
      refine XS.ifYes X5.here hx rfl (pc0 := 21) (pc' := 89) rfl (hb hby d9_21) rfl ((if0 _ _).trans (teq hz).1) (by decide) (by decide) ?_
      exact k)
  exact ⟨T5, _, _, X5, e5, N0, Z0, rfl, J7⟩
end
theorem d9_24 : decode prog_230_method_12_code 24 = .ok (.aload_n 0, 1) := by decide +kernel
theorem d9_25 : decode prog_230_method_12_code 25 = .ok (.getfield 16, 3) := by decide +kernel
theorem d9_28 : decode prog_230_method_12_code 28 = .ok (.iload_n 2, 1) := by decide +kernel
theorem d9_29 : decode prog_230_method_12_code 29 = .ok (.baload, 1) := by decide +kernel
theorem d9_30 : decode prog_230_method_12_code 30 = .ok (.sipush 255, 3) := by decide +kernel
theorem d9_33 : decode prog_230_method_12_code 33 = .ok (.iand, 1) := by decide +kernel
theorem d9_34 : decode prog_230_method_12_code 34 = .ok (.sipush 192, 3) := by decide +kernel
theorem d9_37 : decode prog_230_method_12_code 37 = .ok (.if_icmp .lt 7, 3) := by decide +kernel
theorem d9_40 : decode prog_230_method_12_code 40 = .ok (.iconst 1, 1) := by decide +kernel
theorem d9_41 : decode prog_230_method_12_code 41 = .ok (.goto 4, 3) := by decide +kernel
theorem d9_45 : decode prog_230_method_12_code 45 = .ok (.istore_n 3, 1) := by decide +kernel
theorem d9_46 : decode prog_230_method_12_code 46 = .ok (.iinc 2 1, 3) := by decide +kernel
section
variable {p : Program} {l : Launch} {e : Env} {R : Room} {s : State} {m : MethodId} {args : Array Value} {below : List Frame} {meth : Method} {c : Code} {Z : State} {a0 : Array Value}
set_option maxRecDepth 65536 in
set_option maxHeartbeats 40000000 in
theorem oC (a1 : Addr) (a2 : Addr) (cl : Cell) (ff : Nat → Int32) (B : Nat) (n : Int32) (i : Nat) (s3 : Slot) {T0 : State} {locs : List Loc} {cells slots : Nat} {h0 : Heap} {n0 : Nat} (X0 : Stand p l e R s m args below meth c T0 locs cells slots) (hx : p.tables.exec = Jvm.exec) (hZ : Z.Warmed39 s.vm) (hw : ∀ d ∈ tables_1, d.before a0 Z = true) (hby : c.code = prog_230_method_12_code) (hml : c.maxLocals = 4) (hown : s.vm.findClass "com/example/wisteria/wisteria/value/TextValue" = some m.cls) (e0 : T0.heap = h0) (N0 : Fr n0 locs) (Z0 : n0 ≤ h0.size) (F_bytes_a1 : Fld Z h0 a1 "com/example/wisteria/wisteria/value/TextValue" "bytes" "[B" (.ref a2)) (F_to_a1 : Fld Z h0 a1 "com/example/wisteria/wisteria/value/TextValue" "to" "I" (.int (Int32.ofNat B))) (Ar_a2 : Arr Z h0 a2 cl .byte) (L : own_BA cl ff) (hB : B ≤ 8) (hi : i < B) (hz : ¬ ff i = 0) (hl : own_lead (ff i) = true) (hs3 : One s3) :
    ∃ (T' : State) (h' : Heap) (locs' : List Loc), Stand p l e R s m args below meth c T' locs' cells slots ∧ T'.heap = h' ∧ Fr n0 locs' ∧ n0 ≤ h'.size ∧ h' = h0 ∧ ∀ t, Steps p.tables e below (T'.setTop (mkF m 49 #[.val (.ref a1), .val (.int n), .val (.int ((Int32.ofNat i) + (1 : Int32))), .val (.int (1 : Int32))] [])) t → Steps p.tables e below (T0.setTop (mkF m 7 #[.val (.ref a1), .val (.int n), .val (.int (Int32.ofNat i)), s3] [])) t := by
  have J1 : ∀ t, Steps p.tables e below (T0.setTop (mkF m 9 #[.val (.ref a1), .val (.int n), .val (.int (Int32.ofNat i)), s3] [(.ref a1), (.int (Int32.ofNat i))])) t → Steps p.tables e below (T0.setTop (mkF m 7 #[.val (.ref a1), .val (.int n), .val (.int (Int32.ofNat i)), s3] [])) t := fun t k => id (by
      show Steps p.tables e below (T0.setTop (mkF m 7 #[.val (.ref a1), .val (.int n), .val (.int (Int32.ofNat i)), s3] [])) _
      refine XS.iloadN X0.here hx rfl (hb hby d9_7) rfl ?_
      show Steps p.tables e below (T0.setTop (mkF m 8 #[.val (.ref a1), .val (.int n), .val (.int (Int32.ofNat i)), s3] [(.int (Int32.ofNat i))])) _
      refine XS.aloadN X0.here hx rfl (hb hby d9_8) rfl rfl ?_
      exact k)
  obtain ⟨T2, X2, e2, st2⟩ := getF X0 hx hZ hown (host := "") (Or.inl (hw _ (List.mem_of_getElem? (i := 38) rfl))) Via.refl e0 F_to_a1 (g := (mkF m 9 #[.val (.ref a1), .val (.int n), .val (.int (Int32.ofNat i)), s3] [(.ref a1), (.int (Int32.ofNat i))])) rfl rfl (hb hby d9_9)
  have J3 : ∀ t, Steps p.tables e below (T2.setTop (mkF m 12 #[.val (.ref a1), .val (.int n), .val (.int (Int32.ofNat i)), s3] [(.int (Int32.ofNat B)), (.int (Int32.ofNat i))])) t → Steps p.tables e below (T0.setTop (mkF m 7 #[.val (.ref a1), .val (.int n), .val (.int (Int32.ofNat i)), s3] [])) t := fun t k => J1 t (st2 t k)
  have J4 : ∀ t, Steps p.tables e below (T2.setTop (mkF m 16 #[.val (.ref a1), .val (.int n), .val (.int (Int32.ofNat i)), s3] [(.ref a1)])) t → Steps p.tables e below (T0.setTop (mkF m 7 #[.val (.ref a1), .val (.int n), .val (.int (Int32.ofNat i)), s3] [])) t := fun t k => J3 t (by
      show Steps p.tables e below (T2.setTop (mkF m 12 #[.val (.ref a1), .val (.int n), .val (.int (Int32.ofNat i)), s3] [(.int (Int32.ofNat B)), (.int (Int32.ofNat i))])) _
      refine XS.icmpNo X2.here hx rfl (hb hby d9_12) rfl (tlt (own_lt hi (by omega))).2.1 ?_
      show Steps p.tables e below (T2.setTop (mkF m 15 #[.val (.ref a1), .val (.int n), .val (.int (Int32.ofNat i)), s3] [])) _
      refine XS.aloadN X2.here hx rfl (hb hby d9_15) rfl rfl ?_
      exact k)
  obtain ⟨T5, X5, e5, st5⟩ := getF X2 hx hZ hown (host := "") (Or.inl (hw _ (List.mem_of_getElem? (i := 34) rfl))) Via.refl e2 F_bytes_a1 (g := (mkF m 16 #[.val (.ref a1), .val (.int n), .val (.int (Int32.ofNat i)), s3] [(.ref a1)])) rfl rfl (hb hby d9_16)
  have J6 : ∀ t, Steps p.tables e below (T5.setTop (mkF m 19 #[.val (.ref a1), .val (.int n), .val (.int (Int32.ofNat i)), s3] [(.ref a2)])) t → Steps p.tables e below (T0.setTop (mkF m 7 #[.val (.ref a1), .val (.int n), .val (.int (Int32.ofNat i)), s3] [])) t := fun t k => J4 t (st5 t k)
  have J7 : ∀ t, Steps p.tables e below (T5.setTop (mkF m 25 #[.val (.ref a1), .val (.int n), .val (.int (Int32.ofNat i)), s3] [(.ref a1)])) t → Steps p.tables e below (T0.setTop (mkF m 7 #[.val (.ref a1), .val (.int n), .val (.int (Int32.ofNat i)), s3] [])) t := fun t k => J6 t (by
      show Steps p.tables e below (T5.setTop (mkF m 19 #[.val (.ref a1), .val (.int n), .val (.int (Int32.ofNat i)), s3] [(.ref a2)])) _
      refine XS.iloadN X5.here hx rfl (hb hby d9_19) rfl ?_
      show Steps p.tables e below (T5.setTop (mkF m 20 #[.val (.ref a1), .val (.int n), .val (.int (Int32.ofNat i)), s3] [(.int (Int32.ofNat i)), (.ref a2)])) _
      refine X5.baloadBytes hx (j := (Int32.ofNat i)) (v := (.int (ff i))) (by rw [e5]; exact Ar_a2.1) (State.isArrayOf_alike hZ.alike Ar_a2.2.1) Ar_a2.2.2 (own_inN L (by omega)) (own_at L (by omega)) (g := (mkF m 20 #[.val (.ref a1), .val (.int n), .val (.int (Int32.ofNat i)), s3] [(.int (Int32.ofNat i)), (.ref a2)])) rfl rfl (hb hby d9_20) _ ?_
      show Steps p.tables e below (T5.setTop (mkF m 21 #[.val (.ref a1), .val (.int n), .val (.int (Int32.ofNat i)), s3] [(.int (ff i))])) _
      refine XS.ifNo X5.here hx rfl (hb hby d9_21) rfl ((if0 _ _).trans (feq hz).1) ?_
      show Steps p.tables e below (T5.setTop (mkF m 24 #[.val (.ref a1), .val (.int n), .val (.int (Int32.ofNat i)), s3] [])) _
      refine XS.aloadN X5.here hx rfl (hb hby d9_24) rfl rfl ?_
      exact k)
  obtain ⟨T8, X8, e8, st8⟩ := getF X5 hx hZ hown (host := "") (Or.inl (hw _ (List.mem_of_getElem? (i := 34) rfl))) Via.refl e5 F_bytes_a1 (g := (mkF m 25 #[.val (.ref a1), .val (.int n), .val (.int (Int32.ofNat i)), s3] [(.ref a1)])) rfl rfl (hb hby d9_25)
  have J9 : ∀ t, Steps p.tables e below (T8.setTop (mkF m 28 #[.val (.ref a1), .val (.int n), .val (.int (Int32.ofNat i)), s3] [(.ref a2)])) t → Steps p.tables e below (T0.setTop (mkF m 7 #[.val (.ref a1), .val (.int n), .val (.int (Int32.ofNat i)), s3] [])) t := fun t k => J7 t (st8 t k)
  have J10 : ∀ t, Steps p.tables e below (T8.setTop (mkF m 49 #[.val (.ref a1), .val (.int n), .val (.int ((Int32.ofNat i) + (1 : Int32))), .val (.int (1 : Int32))] [])) t → Steps p.tables e below (T0.setTop (mkF m 7 #[.val (.ref a1), .val (.int n), .val (.int (Int32.ofNat i)), s3] [])) t := fun t k => J9 t (by
      show Steps p.tables e below (T8.setTop (mkF m 28 #[.val (.ref a1), .val (.int n), .val (.int (Int32.ofNat i)), s3] [(.ref a2)])) _
      refine XS.iloadN X8.here hx rfl (hb hby d9_28) rfl ?_
      show Steps p.tables e below (T8.setTop (mkF m 29 #[.val (.ref a1), .val (.int n), .val (.int (Int32.ofNat i)), s3] [(.int (Int32.ofNat i)), (.ref a2)])) _
      refine X8.baloadBytes hx (j := (Int32.ofNat i)) (v := (.int (ff i))) (by rw [e8]; exact Ar_a2.1) (State.isArrayOf_alike hZ.alike Ar_a2.2.1) Ar_a2.2.2 (own_inN L (by omega)) (own_at L (by omega)) (g := (mkF m 29 #[.val (.ref a1), .val (.int n), .val (.int (Int32.ofNat i)), s3] [(.int (Int32.ofNat i)), (.ref a2)])) rfl rfl (hb hby d9_29) _ ?_
      show Steps p.tables e below (T8.setTop (mkF m 30 #[.val (.ref a1), .val (.int n), .val (.int (Int32.ofNat i)), s3] [(.int (ff i))])) _
      refine XS.sipush X8.here hx rfl (hb hby d9_30) ?_
      show Steps p.tables e below (T8.setTop (mkF m 33 #[.val (.ref a1), .val (.int n), .val (.int (Int32.ofNat i)), s3] [(.int (255 : Int32)), (.int (ff i))])) _
      refine XS.iand X8.here hx rfl (hb hby d9_33) rfl ?_
      show Steps p.tables e below (T8.setTop (mkF m 34 #[.val (.ref a1), .val (.int n), .val (.int (Int32.ofNat i)), s3] [(.int ((ff i) &&& (255 : Int32)))])) _
      refine XS.sipush X8.here hx rfl (hb hby d9_34) ?_
      show Steps p.tables e below (T8.setTop (mkF m 37 #[.val (.ref a1), .val (.int n), .val (.int (Int32.ofNat i)), s3] [(.int (192 : Int32)), (.int ((ff i) &&& (255 : Int32)))])) _
      refine XS.icmpNo X8.here hx rfl (hb hby d9_37) rfl (flt (by simpa [own_lead] using hl)).1 ?_
      show Steps p.tables e below (T8.setTop (mkF m 40 #[.val (.ref a1), .val (.int n), .val (.int (Int32.ofNat i)), s3] [])) _
      refine XS.iconst X8.here hx rfl (hb hby d9_40) ?_
      show Steps p.tables e below (T8.setTop (mkF m 41 #[.val (.ref a1), .val (.int n), .val (.int (Int32.ofNat i)), s3] [(.int (1 : Int32))])) _
      refine XS.goto X8.here hx rfl (pc0 := 41) (pc' := 45) rfl (hb hby d9_41) (by decide) (by decide) ?_
      show Steps p.tables e below (T8.setTop (mkF m 45 #[.val (.ref a1), .val (.int n), .val (.int (Int32.ofNat i)), s3] [(.int (1 : Int32))])) _
      refine XS.istoreN X8.here hx rfl (hb hby d9_45) rfl (l' := #[.val (.ref a1), .val (.int n), .val (.int (Int32.ofNat i)), .val (.int (1 : Int32))]) (own_os hs3) ?_
      show Steps p.tables e below (T8.setTop (mkF m 46 #[.val (.ref a1), .val (.int n), .val (.int (Int32.ofNat i)), .val (.int (1 : Int32))] [])) _
      refine XS.iinc X8.here hx rfl (hb hby d9_46) rfl (l' := #[.val (.ref a1), .val (.int n), .val (.int ((Int32.ofNat i) + (1 : Int32))), .val (.int (1 : Int32))]) rfl ?_
      exact k)
  exact ⟨T8, _, _, X8, e8, N0, Z0, rfl, J10⟩
end
theorem d9_44 : decode prog_230_method_12_code 44 = .ok (.iconst 0, 1) := by decide +kernel
theorem d9_83 : decode prog_230_method_12_code 83 = .ok (.iinc 1 1, 3) := by decide +kernel
theorem d9_86 : decode prog_230_method_12_code 86 = .ok (.goto (-79), 3) := by decide +kernel
section
variable {p : Program} {l : Launch} {e : Env} {R : Room} {s : State} {m : MethodId} {args : Array Value} {below : List Frame} {meth : Method} {c : Code} {Z : State} {a0 : Array Value}
set_option maxRecDepth 65536 in
set_option maxHeartbeats 40000000 in
theorem oD (a1 : Addr) (a2 : Addr) (cl : Cell) (ff : Nat → Int32) (B : Nat) (n : Int32) (i : Nat) (s3 : Slot) {T0 : State} {locs : List Loc} {cells slots : Nat} {h0 : Heap} {n0 : Nat} (X0 : Stand p l e R s m args below meth c T0 locs cells slots) (hx : p.tables.exec = Jvm.exec) (hZ : Z.Warmed39 s.vm) (hw : ∀ d ∈ tables_1, d.before a0 Z = true) (hby : c.code = prog_230_method_12_code) (hml : c.maxLocals = 4) (hown : s.vm.findClass "com/example/wisteria/wisteria/value/TextValue" = some m.cls) (e0 : T0.heap = h0) (N0 : Fr n0 locs) (Z0 : n0 ≤ h0.size) (F_bytes_a1 : Fld Z h0 a1 "com/example/wisteria/wisteria/value/TextValue" "bytes" "[B" (.ref a2)) (F_to_a1 : Fld Z h0 a1 "com/example/wisteria/wisteria/value/TextValue" "to" "I" (.int (Int32.ofNat B))) (Ar_a2 : Arr Z h0 a2 cl .byte) (L : own_BA cl ff) (hB : B ≤ 8) (hi : i < B) (hz : ¬ ff i = 0) (hl : ¬ own_lead (ff i) = true) (hs3 : One s3) :
    ∃ (T' : State) (h' : Heap) (locs' : List Loc), Stand p l e R s m args below meth c T' locs' cells slots ∧ T'.heap = h' ∧ Fr n0 locs' ∧ n0 ≤ h'.size ∧ h' = h0 ∧ ∀ t, Steps p.tables e below (T'.setTop (mkF m 7 #[.val (.ref a1), .val (.int (n + (1 : Int32))), .val (.int ((Int32.ofNat i) + (1 : Int32))), .val (.int (0 : Int32))] [])) t → Steps p.tables e below (T0.setTop (mkF m 7 #[.val (.ref a1), .val (.int n), .val (.int (Int32.ofNat i)), s3] [])) t := by
  have J1 : ∀ t, Steps p.tables e below (T0.setTop (mkF m 9 #[.val (.ref a1), .val (.int n), .val (.int (Int32.ofNat i)), s3] [(.ref a1), (.int (Int32.ofNat i))])) t → Steps p.tables e below (T0.setTop (mkF m 7 #[.val (.ref a1), .val (.int n), .val (.int (Int32.ofNat i)), s3] [])) t := fun t k => id (by
      show Steps p.tables e below (T0.setTop (mkF m 7 #[.val (.ref a1), .val (.int n), .val (.int (Int32.ofNat i)), s3] [])) _
      refine XS.iloadN X0.here hx rfl (hb hby d9_7) rfl ?_
      show Steps p.tables e below (T0.setTop (mkF m 8 #[.val (.ref a1), .val (.int n), .val (.int (Int32.ofNat i)), s3] [(.int (Int32.ofNat i))])) _
      refine XS.aloadN X0.here hx rfl (hb hby d9_8) rfl rfl ?_
      exact k)
  obtain ⟨T2, X2, e2, st2⟩ := getF X0 hx hZ hown (host := "") (Or.inl (hw _ (List.mem_of_getElem? (i := 38) rfl))) Via.refl e0 F_to_a1 (g := (mkF m 9 #[.val (.ref a1), .val (.int n), .val (.int (Int32.ofNat i)), s3] [(.ref a1), (.int (Int32.ofNat i))])) rfl rfl (hb hby d9_9)
  have J3 : ∀ t, Steps p.tables e below (T2.setTop (mkF m 12 #[.val (.ref a1), .val (.int n), .val (.int (Int32.ofNat i)), s3] [(.int (Int32.ofNat B)), (.int (Int32.ofNat i))])) t → Steps p.tables e below (T0.setTop (mkF m 7 #[.val (.ref a1), .val (.int n), .val (.int (Int32.ofNat i)), s3] [])) t := fun t k => J1 t (st2 t k)
  have J4 : ∀ t, Steps p.tables e below (T2.setTop (mkF m 16 #[.val (.ref a1), .val (.int n), .val (.int (Int32.ofNat i)), s3] [(.ref a1)])) t → Steps p.tables e below (T0.setTop (mkF m 7 #[.val (.ref a1), .val (.int n), .val (.int (Int32.ofNat i)), s3] [])) t := fun t k => J3 t (by
      show Steps p.tables e below (T2.setTop (mkF m 12 #[.val (.ref a1), .val (.int n), .val (.int (Int32.ofNat i)), s3] [(.int (Int32.ofNat B)), (.int (Int32.ofNat i))])) _
      refine XS.icmpNo X2.here hx rfl (hb hby d9_12) rfl (tlt (own_lt hi (by omega))).2.1 ?_
      show Steps p.tables e below (T2.setTop (mkF m 15 #[.val (.ref a1), .val (.int n), .val (.int (Int32.ofNat i)), s3] [])) _
      refine XS.aloadN X2.here hx rfl (hb hby d9_15) rfl rfl ?_
      exact k)
  obtain ⟨T5, X5, e5, st5⟩ := getF X2 hx hZ hown (host := "") (Or.inl (hw _ (List.mem_of_getElem? (i := 34) rfl))) Via.refl e2 F_bytes_a1 (g := (mkF m 16 #[.val (.ref a1), .val (.int n), .val (.int (Int32.ofNat i)), s3] [(.ref a1)])) rfl rfl (hb hby d9_16)
  have J6 : ∀ t, Steps p.tables e below (T5.setTop (mkF m 19 #[.val (.ref a1), .val (.int n), .val (.int (Int32.ofNat i)), s3] [(.ref a2)])) t → Steps p.tables e below (T0.setTop (mkF m 7 #[.val (.ref a1), .val (.int n), .val (.int (Int32.ofNat i)), s3] [])) t := fun t k => J4 t (st5 t k)
  have J7 : ∀ t, Steps p.tables e below (T5.setTop (mkF m 25 #[.val (.ref a1), .val (.int n), .val (.int (Int32.ofNat i)), s3] [(.ref a1)])) t → Steps p.tables e below (T0.setTop (mkF m 7 #[.val (.ref a1), .val (.int n), .val (.int (Int32.ofNat i)), s3] [])) t := fun t k => J6 t (by
      show Steps p.tables e below (T5.setTop (mkF m 19 #[.val (.ref a1), .val (.int n), .val (.int (Int32.ofNat i)), s3] [(.ref a2)])) _
      refine XS.iloadN X5.here hx rfl (hb hby d9_19) rfl ?_
      show Steps p.tables e below (T5.setTop (mkF m 20 #[.val (.ref a1), .val (.int n), .val (.int (Int32.ofNat i)), s3] [(.int (Int32.ofNat i)), (.ref a2)])) _
      refine X5.baloadBytes hx (j := (Int32.ofNat i)) (v := (.int (ff i))) (by rw [e5]; exact Ar_a2.1) (State.isArrayOf_alike hZ.alike Ar_a2.2.1) Ar_a2.2.2 (own_inN L (by omega)) (own_at L (by omega)) (g := (mkF m 20 #[.val (.ref a1), .val (.int n), .val (.int (Int32.ofNat i)), s3] [(.int (Int32.ofNat i)), (.ref a2)])) rfl rfl (hb hby d9_20) _ ?_
      show Steps p.tables e below (T5.setTop (mkF m 21 #[.val (.ref a1), .val (.int n), .val (.int (Int32.ofNat i)), s3] [(.int (ff i))])) _
      refine XS.ifNo X5.here hx rfl (hb hby d9_21) rfl ((if0 _ _).trans (feq hz).1) ?_
      show Steps p.tables e below (T5.setTop (mkF m 24 #[.val (.ref a1), .val (.int n), .val (.int (Int32.ofNat i)), s3] [])) _
      refine XS.aloadN X5.here hx rfl (hb hby d9_24) rfl rfl ?_
      exact k)
  obtain ⟨T8, X8, e8, st8⟩ := getF X5 hx hZ hown (host := "") (Or.inl (hw _ (List.mem_of_getElem? (i := 34) rfl))) Via.refl e5 F_bytes_a1 (g := (mkF m 25 #[.val (.ref a1), .val (.int n), .val (.int (Int32.ofNat i)), s3] [(.ref a1)])) rfl rfl (hb hby d9_25)
  have J9 : ∀ t, Steps p.tables e below (T8.setTop (mkF m 28 #[.val (.ref a1), .val (.int n), .val (.int (Int32.ofNat i)), s3] [(.ref a2)])) t → Steps p.tables e below (T0.setTop (mkF m 7 #[.val (.ref a1), .val (.int n), .val (.int (Int32.ofNat i)), s3] [])) t := fun t k => J7 t (st8 t k)
  have J10 : ∀ t, Steps p.tables e below (T8.setTop (mkF m 7 #[.val (.ref a1), .val (.int (n + (1 : Int32))), .val (.int ((Int32.ofNat i) + (1 : Int32))), .val (.int (0 : Int32))] [])) t → Steps p.tables e below (T0.setTop (mkF m 7 #[.val (.ref a1), .val (.int n), .val (.int (Int32.ofNat i)), s3] [])) t := fun t k => J9 t (by
      show Steps p.tables e below (T8.setTop (mkF m 28 #[.val (.ref a1), .val (.int n), .val (.int (Int32.ofNat i)), s3] [(.ref a2)])) _
      refine XS.iloadN X8.here hx rfl (hb hby d9_28) rfl ?_
      show Steps p.tables e below (T8.setTop (mkF m 29 #[.val (.ref a1), .val (.int n), .val (.int (Int32.ofNat i)), s3] [(.int (Int32.ofNat i)), (.ref a2)])) _
      refine X8.baloadBytes hx (j := (Int32.ofNat i)) (v := (.int (ff i))) (by rw [e8]; exact Ar_a2.1) (State.isArrayOf_alike hZ.alike Ar_a2.2.1) Ar_a2.2.2 (own_inN L (by omega)) (own_at L (by omega)) (g := (mkF m 29 #[.val (.ref a1), .val (.int n), .val (.int (Int32.ofNat i)), s3] [(.int (Int32.ofNat i)), (.ref a2)])) rfl rfl (hb hby d9_29) _ ?_
      show Steps p.tables e below (T8.setTop (mkF m 30 #[.val (.ref a1), .val (.int n), .val (.int (Int32.ofNat i)), s3] [(.int (ff i))])) _
      refine XS.sipush X8.here hx rfl (hb hby d9_30) ?_
      show Steps p.tables e below (T8.setTop (mkF m 33 #[.val (.ref a1), .val (.int n), .val (.int (Int32.ofNat i)), s3] [(.int (255 : Int32)), (.int (ff i))])) _
      refine XS.iand X8.here hx rfl (hb hby d9_33) rfl ?_
      show Steps p.tables e below (T8.setTop (mkF m 34 #[.val (.ref a1), .val (.int n), .val (.int (Int32.ofNat i)), s3] [(.int ((ff i) &&& (255 : Int32)))])) _
      refine XS.sipush X8.here hx rfl (hb hby d9_34) ?_
      show Steps p.tables e below (T8.setTop (mkF m 37 #[.val (.ref a1), .val (.int n), .val (.int (Int32.ofNat i)), s3] [(.int (192 : Int32)), (.int ((ff i) &&& (255 : Int32)))])) _
      refine XS.icmpYes X8.here hx rfl (pc0 := 37) (pc' := 44) rfl (hb hby d9_37) rfl (tlt (by simpa [own_lead] using hl)).1 (by decide) (by decide) ?_
      show Steps p.tables e below (T8.setTop (mkF m 44 #[.val (.ref a1), .val (.int n), .val (.int (Int32.ofNat i)), s3] [])) _
      refine XS.iconst X8.here hx rfl (hb hby d9_44) ?_
      show Steps p.tables e below (T8.setTop (mkF m 45 #[.val (.ref a1), .val (.int n), .val (.int (Int32.ofNat i)), s3] [(.int (0 : Int32))])) _
      refine XS.istoreN X8.here hx rfl (hb hby d9_45) rfl (l' := #[.val (.ref a1), .val (.int n), .val (.int (Int32.ofNat i)), .val (.int (0 : Int32))]) (own_os hs3) ?_
      show Steps p.tables e below (T8.setTop (mkF m 46 #[.val (.ref a1), .val (.int n), .val (.int (Int32.ofNat i)), .val (.int (0 : Int32))] [])) _
      refine XS.iinc X8.here hx rfl (hb hby d9_46) rfl (l' := #[.val (.ref a1), .val (.int n), .val (.int ((Int32.ofNat i) + (1 : Int32))), .val (.int (0 : Int32))]) rfl ?_
      show Steps p.tables e below (T8.setTop (mkF m 49 #[.val (.ref a1), .val (.int n), .val (.int ((Int32.ofNat i) + (1 : Int32))), .val (.int (0 : Int32))] [])) _
      refine XS.iloadN X8.here hx rfl (hb hby d9_49) rfl ?_
      show Steps p.tables e below (T8.setTop (mkF m 50 #[.val (.ref a1), .val (.int n), .val (.int ((Int32.ofNat i) + (1 : Int32))), .val (.int (0 : Int32))] [(.int (0 : Int32))])) _
      refine XS.ifYes X8.here hx rfl (pc0 := 50) (pc' := 83) rfl (hb hby d9_50) rfl ((if0 _ _).trans (teq rfl).1) (by decide) (by decide) ?_
      show Steps p.tables e below (T8.setTop (mkF m 83 #[.val (.ref a1), .val (.int n), .val (.int ((Int32.ofNat i) + (1 : Int32))), .val (.int (0 : Int32))] [])) _
      refine XS.iinc X8.here hx rfl (hb hby d9_83) rfl (l' := #[.val (.ref a1), .val (.int (n + (1 : Int32))), .val (.int ((Int32.ofNat i) + (1 : Int32))), .val (.int (0 : Int32))]) rfl ?_
      show Steps p.tables e below (T8.setTop (mkF m 86 #[.val (.ref a1), .val (.int (n + (1 : Int32))), .val (.int ((Int32.ofNat i) + (1 : Int32))), .val (.int (0 : Int32))] [])) _
      refine XS.goto X8.here hx rfl (pc0 := 86) (pc' := 7) rfl (hb hby d9_86) (by decide) (by decide) ?_
      exact k)
  exact ⟨T8, _, _, X8, e8, N0, Z0, rfl, J10⟩
end
section
variable {p : Program} {l : Launch} {e : Env} {R : Room} {s : State} {m : MethodId} {args : Array Value} {below : List Frame} {meth : Method} {c : Code} {Z : State} {a0 : Array Value}
set_option maxRecDepth 65536 in
set_option maxHeartbeats 40000000 in
theorem oE (a1 : Addr) (a2 : Addr) (cl : Cell) (ff : Nat → Int32) (B : Nat) (n : Int32) (i : Nat) {T0 : State} {locs : List Loc} {cells slots : Nat} {h0 : Heap} {n0 : Nat} (X0 : Stand p l e R s m args below meth c T0 locs cells slots) (hx : p.tables.exec = Jvm.exec) (hZ : Z.Warmed39 s.vm) (hw : ∀ d ∈ tables_1, d.before a0 Z = true) (hby : c.code = prog_230_method_12_code) (hml : c.maxLocals = 4) (hown : s.vm.findClass "com/example/wisteria/wisteria/value/TextValue" = some m.cls) (e0 : T0.heap = h0) (N0 : Fr n0 locs) (Z0 : n0 ≤ h0.size) (F_bytes_a1 : Fld Z h0 a1 "com/example/wisteria/wisteria/value/TextValue" "bytes" "[B" (.ref a2)) (F_to_a1 : Fld Z h0 a1 "com/example/wisteria/wisteria/value/TextValue" "to" "I" (.int (Int32.ofNat B))) (Ar_a2 : Arr Z h0 a2 cl .byte) (L : own_BA cl ff) (hB : B ≤ 8) :
    ∃ (T' : State) (h' : Heap) (locs' : List Loc), Stand p l e R s m args below meth c T' locs' cells slots ∧ T'.heap = h' ∧ Fr n0 locs' ∧ n0 ≤ h'.size ∧ h' = h0 ∧ ∀ t, Steps p.tables e below (T'.setTop (mkF m 7 #[.val (.ref a1), .val (.int (n + (1 : Int32))), .val (.int (Int32.ofNat i)), .val (.int (1 : Int32))] [])) t → Steps p.tables e below (T0.setTop (mkF m 83 #[.val (.ref a1), .val (.int n), .val (.int (Int32.ofNat i)), .val (.int (1 : Int32))] [])) t := by
  have J1 : ∀ t, Steps p.tables e below (T0.setTop (mkF m 7 #[.val (.ref a1), .val (.int (n + (1 : Int32))), .val (.int (Int32.ofNat i)), .val (.int (1 : Int32))] [])) t → Steps p.tables e below (T0.setTop (mkF m 83 #[.val (.ref a1), .val (.int n), .val (.int (Int32.ofNat i)), .val (.int (1 : Int32))] [])) t := fun t k => id (by
      show Steps p.tables e below (T0.setTop (mkF m 83 #[.val (.ref a1), .val (.int n), .val (.int (Int32.ofNat i)), .val (.int (1 : Int32))] [])) _
      refine XS.iinc X0.here hx rfl (hb hby d9_83) rfl (l' := #[.val (.ref a1), .val (.int (n + (1 : Int32))), .val (.int (Int32.ofNat i)), .val (.int (1 : Int32))]) rfl ?_
      show Steps p.tables e below (T0.setTop (mkF m 86 #[.val (.ref a1), .val (.int (n + (1 : Int32))), .val (.int (Int32.ofNat i)), .val (.int (1 : Int32))] [])) _
      refine XS.goto X0.here hx rfl (pc0 := 86) (pc' := 7) rfl (hb hby d9_86) (by decide) (by decide) ?_
      exact k)
  exact ⟨T0, _, _, X0, e0, N0, Z0, rfl, J1⟩
end
section
variable {p : Program} {l : Launch} {e : Env} {R : Room} {s : State} {m : MethodId} {args : Array Value} {below : List Frame} {meth : Method} {c : Code} {Z : State} {a0 : Array Value}
theorem loopI {cells slots : Nat} {h0 : Heap} {n0 : Nat} (a1 a2 : Addr) (cl : Cell) (ff : Nat → Int32) (B : Nat) (n : Int32) (hx : p.tables.exec = Jvm.exec) (hZ : Z.Warmed39 s.vm) (hw : ∀ d ∈ tables_1, d.before a0 Z = true) (hby : c.code = prog_230_method_12_code) (hml : c.maxLocals = 4) (hown : s.vm.findClass "com/example/wisteria/wisteria/value/TextValue" = some m.cls) (Z0 : n0 ≤ h0.size) (F_bytes_a1 : Fld Z h0 a1 "com/example/wisteria/wisteria/value/TextValue" "bytes" "[B" (.ref a2)) (F_to_a1 : Fld Z h0 a1 "com/example/wisteria/wisteria/value/TextValue" "to" "I" (.int (Int32.ofNat B))) (Ar_a2 : Arr Z h0 a2 cl .byte) (L : own_BA cl ff) (hB : B ≤ 8) :
    ∀ (k i : Nat) (T0 : State) (locs : List Loc), B ≤ i + k → i ≤ 8 → Stand p l e R s m args below meth c T0 locs cells slots → T0.heap = h0 → Fr n0 locs →
      ∃ (T' : State) (h' : Heap) (locs' : List Loc), Stand p l e R s m args below meth c T' locs' cells slots ∧ T'.heap = h' ∧ Fr n0 locs' ∧ n0 ≤ h'.size ∧ h' = h0 ∧
        ∀ t, Steps p.tables e below (T'.setTop (mkF m 83 #[.val (.ref a1), .val (.int n), .val (.int (Int32.ofNat (own_sk ff B k i))), .val (.int (1 : Int32))] [])) t → Steps p.tables e below (T0.setTop (mkF m 49 #[.val (.ref a1), .val (.int n), .val (.int (Int32.ofNat i)), .val (.int (1 : Int32))] [])) t := by
  intro k
  induction k with
  | zero =>
    intro i T0 locs hi hi8 X0 e0 N0
    exact iA a1 a2 cl ff B n i X0 hx hZ hw hby hml hown e0 N0 Z0 F_bytes_a1 F_to_a1 Ar_a2 L hB (by omega) hi8
  | succ k ih =>
    intro i T0 locs hi hi8 X0 e0 N0
    by_cases q : i < B ∧ own_cont (ff i) = true
    · obtain ⟨T1, h1, l1, X1, e1, N1, Z1, q1, st1⟩ := iC a1 a2 cl ff B n i X0 hx hZ hw hby hml hown e0 N0 Z0 F_bytes_a1 F_to_a1 Ar_a2 L hB q.1 q.2
      rw [q1] at e1
      obtain ⟨T2, h2, l2, X2, e2, N2, Z2, q2, st2⟩ := ih (i + 1) T1 l1 (by omega) (by omega) X1 e1 N1
      refine ⟨T2, h2, l2, X2, e2, N2, Z2, q2, fun t k => st1 t ?_⟩
      rw [own_inc]
      refine st2 t ?_
      rw [show own_sk ff B (_ + 1) i = own_sk ff B _ (i + 1) from if_pos q] at k
      exact k
    · rw [show own_sk ff B (k + 1) i = i from if_neg q]
      by_cases hb : i < B
      · exact iB a1 a2 cl ff B n i X0 hx hZ hw hby hml hown e0 N0 Z0 F_bytes_a1 F_to_a1 Ar_a2 L hB hb (fun z => q ⟨hb, z⟩)
      · exact iA a1 a2 cl ff B n i X0 hx hZ hw hby hml hown e0 N0 Z0 F_bytes_a1 F_to_a1 Ar_a2 L hB (by omega) hi8
end
section
variable {p : Program} {l : Launch} {e : Env} {R : Room} {s : State} {m : MethodId} {args : Array Value} {below : List Frame} {meth : Method} {c : Code} {Z : State} {a0 : Array Value}
theorem loopO {cells slots : Nat} {h0 : Heap} {n0 : Nat} (a1 a2 : Addr) (cl : Cell) (ff : Nat → Int32) (B : Nat) (hx : p.tables.exec = Jvm.exec) (hZ : Z.Warmed39 s.vm) (hw : ∀ d ∈ tables_1, d.before a0 Z = true) (hby : c.code = prog_230_method_12_code) (hml : c.maxLocals = 4) (hown : s.vm.findClass "com/example/wisteria/wisteria/value/TextValue" = some m.cls) (Z0 : n0 ≤ h0.size) (F_bytes_a1 : Fld Z h0 a1 "com/example/wisteria/wisteria/value/TextValue" "bytes" "[B" (.ref a2)) (F_to_a1 : Fld Z h0 a1 "com/example/wisteria/wisteria/value/TextValue" "to" "I" (.int (Int32.ofNat B))) (Ar_a2 : Arr Z h0 a2 cl .byte) (L : own_BA cl ff) (hB : B ≤ 8) :
    ∀ (k i n : Nat) (s3 : Slot) (T0 : State) (locs : List Loc), B < i + k → i ≤ 8 → One s3 → Stand p l e R s m args below meth c T0 locs cells slots → T0.heap = h0 → Fr n0 locs →
      ∃ (T' : State) (h' : Heap) (locs' : List Loc) (i' : Int32) (s3' : Slot), Stand p l e R s m args below meth c T' locs' cells slots ∧ T'.heap = h' ∧ Fr n0 locs' ∧ n0 ≤ h'.size ∧ h' = h0 ∧
        ∀ t, Steps p.tables e below (T'.setTop (mkF m 89 #[.val (.ref a1), .val (.int (Int32.ofNat (n + own_ct ff B k i))), .val (.int i'), s3'] [])) t → Steps p.tables e below (T0.setTop (mkF m 7 #[.val (.ref a1), .val (.int (Int32.ofNat n)), .val (.int (Int32.ofNat i)), s3] [])) t := by
  intro k
  induction k with
  | zero =>
    intro i n s3 T0 locs hi hi8 hs3 X0 e0 N0
    obtain ⟨T1, h1, l1, X1, e1, N1, Z1, q1, st1⟩ := oA a1 a2 cl ff B (Int32.ofNat n) i s3 X0 hx hZ hw hby hml hown e0 N0 Z0 F_bytes_a1 F_to_a1 Ar_a2 L hB (by omega) hi8
    exact ⟨T1, h1, l1, _, _, X1, e1, N1, Z1, q1, st1⟩
  | succ k ih =>
    intro i n s3 T0 locs hi hi8 hs3 X0 e0 N0
    by_cases q : i < B ∧ ¬ ff i = 0
    · have hct : own_ct ff B (k + 1) i = 1 + own_ct ff B k (own_nx ff B i) := if_pos q
      have g1 := own_nx_gt ff B i
      have g2 := own_nx_le ff B i q.1
      rw [hct]
      by_cases hl : own_lead (ff i) = true
      · have enx : own_nx ff B i = own_sk ff B 8 (i + 1) := if_pos hl
        obtain ⟨T1, h1, l1, X1, e1, N1, Z1, q1, st1⟩ := oC a1 a2 cl ff B (Int32.ofNat n) i s3 X0 hx hZ hw hby hml hown e0 N0 Z0 F_bytes_a1 F_to_a1 Ar_a2 L hB q.1 q.2 hl hs3
        rw [q1] at e1
        rw [own_inc] at st1
        obtain ⟨T2, h2, l2, X2, e2, N2, Z2, q2, st2⟩ := loopI a1 a2 cl ff B (Int32.ofNat n) hx hZ hw hby hml hown Z0 F_bytes_a1 F_to_a1 Ar_a2 L hB 8 (i + 1) T1 l1 (by omega) (by omega) X1 e1 N1
        rw [q2] at e2
        rw [← enx] at st2
        obtain ⟨T3, h3, l3, X3, e3, N3, Z3, q3, st3⟩ := oE a1 a2 cl ff B (Int32.ofNat n) (own_nx ff B i) X2 hx hZ hw hby hml hown e2 N2 Z0 F_bytes_a1 F_to_a1 Ar_a2 L hB
        rw [q3] at e3
        rw [own_inc] at st3
        obtain ⟨T4, h4, l4, i4, s4, X4, e4, N4, Z4, q4, st4⟩ := ih (own_nx ff B i) (n + 1) (.val (.int (1 : Int32))) T3 l3 (by omega) (by omega) (One.val rfl) X3 e3 N3
        rw [Nat.add_assoc] at st4
        exact ⟨T4, h4, l4, i4, s4, X4, e4, N4, Z4, q4, fun t k => st1 t (st2 t (st3 t (st4 t k)))⟩
      · have enx : own_nx ff B i = i + 1 := if_neg hl
        obtain ⟨T1, h1, l1, X1, e1, N1, Z1, q1, st1⟩ := oD a1 a2 cl ff B (Int32.ofNat n) i s3 X0 hx hZ hw hby hml hown e0 N0 Z0 F_bytes_a1 F_to_a1 Ar_a2 L hB q.1 q.2 hl hs3
        rw [q1] at e1
        rw [own_inc, own_inc] at st1
        rw [enx]
        obtain ⟨T4, h4, l4, i4, s4, X4, e4, N4, Z4, q4, st4⟩ := ih (i + 1) (n + 1) (.val (.int (0 : Int32))) T1 l1 (by omega) (by omega) (One.val rfl) X1 e1 N1
        rw [Nat.add_assoc] at st4
        exact ⟨T4, h4, l4, i4, s4, X4, e4, N4, Z4, q4, fun t k => st1 t (st4 t k)⟩
    · rw [show own_ct ff B (k + 1) i = 0 from if_neg q, Nat.add_zero]
      by_cases hb : i < B
      · obtain ⟨T1, h1, l1, X1, e1, N1, Z1, q1, st1⟩ := oB a1 a2 cl ff B (Int32.ofNat n) i s3 X0 hx hZ hw hby hml hown e0 N0 Z0 F_bytes_a1 F_to_a1 Ar_a2 L hB hb (Decidable.byContradiction fun z => q ⟨hb, z⟩)
        exact ⟨T1, h1, l1, _, _, X1, e1, N1, Z1, q1, st1⟩
      · obtain ⟨T1, h1, l1, X1, e1, N1, Z1, q1, st1⟩ := oA a1 a2 cl ff B (Int32.ofNat n) i s3 X0 hx hZ hw hby hml hown e0 N0 Z0 F_bytes_a1 F_to_a1 Ar_a2 L hB (by omega) hi8
        exact ⟨T1, h1, l1, _, _, X1, e1, N1, Z1, q1, st1⟩
end
theorem d9_0 : decode prog_230_method_12_code 0 = .ok (.iconst 0, 1) := by decide +kernel
theorem d9_1 : decode prog_230_method_12_code 1 = .ok (.istore_n 1, 1) := by decide +kernel
theorem d9_2 : decode prog_230_method_12_code 2 = .ok (.aload_n 0, 1) := by decide +kernel
theorem d9_3 : decode prog_230_method_12_code 3 = .ok (.getfield 20, 3) := by decide +kernel
theorem d9_6 : decode prog_230_method_12_code 6 = .ok (.istore_n 2, 1) := by decide +kernel
theorem d9_89 : decode prog_230_method_12_code 89 = .ok (.iload_n 1, 1) := by decide +kernel
theorem d9_90 : decode prog_230_method_12_code 90 = .ok (.ireturn, 1) := by decide +kernel
theorem pn_9 : plainName "com/example/wisteria/wisteria/value/TextValue" = true := by first | (simp [plainName, overriddenIn]; done) | decide +kernel
theorem ef_9_x (m : MethodId) (x0 : Addr) : entryFrame m #[(.ref x0)] 4 = mkF m 0 #[.val (.ref x0), .unset, .unset, .unset] [] := by first | (simp [entryFrame, mkF, argsToLocals, Value.category]; done) | rfl
def Q9 (Z : State) (a1 : Addr) (a2 : Addr) (cl : Cell) (ff : Nat → Int32) (A : Nat) (B : Nat) (h0 : Heap) (n0 : Nat) (v : Option Value) (h : Heap) (L : List Loc) : Prop := v = some (.int (Int32.ofNat (own_ct ff B 9 A))) ∧ Fr n0 L ∧ h = h0
set_option maxRecDepth 65536 in
set_option maxHeartbeats 40000000 in
theorem rm9 (l : Launch) (Z : State) (a0 : Array Value) (hw : ∀ d ∈ tables_1, d.before a0 Z = true) (ws : List Jvm.Cond) (a1 : Addr) (a2 : Addr) (cl : Cell) (ff : Nat → Int32) (A : Nat) (B : Nat) (h0 : Heap) (n0 : Nat) (Z0 : n0 ≤ h0.size) (F_bytes_a1 : Fld Z h0 a1 "com/example/wisteria/wisteria/value/TextValue" "bytes" "[B" (.ref a2)) (F_to_a1 : Fld Z h0 a1 "com/example/wisteria/wisteria/value/TextValue" "to" "I" (.int (Int32.ofNat B))) (Ar_a2 : Arr Z h0 a2 cl .byte) (L : own_BA cl ff) (hB : B ≤ 8) (F_from_a1 : Fld Z h0 a1 "com/example/wisteria/wisteria/value/TextValue" "from" "I" (.int (Int32.ofNat A))) (hA : A ≤ 8) :
    MetFree l (⟨"com/example/wisteria/wisteria/value/TextValue", "characterCountBeforeNul", "()I"⟩ : MethodName) (head1 (Jvm.Cond.code (⟨"com/example/wisteria/wisteria/value/TextValue", "characterCountBeforeNul", "()I"⟩ : MethodName) prog_230_method_12_code 4 (some .int) :: ws) ({ frames := 0, cells := 0, slots := 0, locals := 0 } : Room)) (fun a U => a = #[(.ref a1)] ∧ Z.Warmed39 U.vm ∧ U.heap = h0) (fun _ _ _ _ _ => True) (fun _ U o U' => ∃ v L, o = .returned v ∧ Q9 Z a1 a2 cl ff A B h0 n0 v U'.heap L ∧ FrameEnd U o U' L ({ frames := 0, cells := 0, slots := 0, locals := 0 } : Room).cells ({ frames := 0, cells := 0, slots := 0, locals := 0 } : Room).slots) := by
  refine MetFree.of_bodySF (plainFor_of_name pn_9) hisR ?_
  intro p e s m args below meth c s₁ Bd hml0 hP hK
  obtain ⟨rfl, hZ, hh⟩ := hP
  have hx := Bd.exec
  have hby := Bd.bytes
  have hml : c.maxLocals = 4 := hml0
  have hown : s.vm.findClass "com/example/wisteria/wisteria/value/TextValue" = some m.cls := findClass_of_methodNamed Bd.named
  have hnm := (name_of_methodNamed Bd.named Bd.method).1
  have X0 : Stand p l e ({ frames := 0, cells := 0, slots := 0, locals := 0 } : Room) s m #[(.ref a1)] below meth c s₁ [] 0 0 := Stand.of_body Bd
  have e0 : s₁.heap = h0 := by rw [← hh, Bd.state]; rfl
  have N0 := Fr.nil n0
  have pre0 : ∀ t, Steps p.tables e below (s₁.setTop (mkF m 0 #[.val (.ref a1), .unset, .unset, .unset] [])) t → Steps p.tables e below (s₁.setTop (entryFrame m #[(.ref a1)] 4)) t := fun t k => castTop (ef_9_x m a1) k
  have J1 : ∀ t, Steps p.tables e below (s₁.setTop (mkF m 3 #[.val (.ref a1), .val (.int (0 : Int32)), .unset, .unset] [(.ref a1)])) t → Steps p.tables e below (s₁.setTop (entryFrame m #[(.ref a1)] 4)) t := fun t k => pre0 t (by
      show Steps p.tables e below (s₁.setTop (mkF m 0 #[.val (.ref a1), .unset, .unset, .unset] [])) _
      refine XS.iconst X0.here hx rfl (hb hby d9_0) ?_
      show Steps p.tables e below (s₁.setTop (mkF m 1 #[.val (.ref a1), .unset, .unset, .unset] [(.int (0 : Int32))])) _
      refine XS.istoreN X0.here hx rfl (hb hby d9_1) rfl (l' := #[.val (.ref a1), .val (.int (0 : Int32)), .unset, .unset]) rfl ?_
      show Steps p.tables e below (s₁.setTop (mkF m 2 #[.val (.ref a1), .val (.int (0 : Int32)), .unset, .unset] [])) _
      refine XS.aloadN X0.here hx rfl (hb hby d9_2) rfl rfl ?_
      exact k)
  obtain ⟨T2, X2, e2, st2⟩ := getF X0 hx hZ hown (host := "") (Or.inl (hw _ (List.mem_of_getElem? (i := 36) rfl))) Via.refl e0 F_from_a1 (g := (mkF m 3 #[.val (.ref a1), .val (.int (0 : Int32)), .unset, .unset] [(.ref a1)])) rfl rfl (hb hby d9_3)
  have J3 : ∀ t, Steps p.tables e below (T2.setTop (mkF m 6 #[.val (.ref a1), .val (.int (0 : Int32)), .unset, .unset] [(.int (Int32.ofNat A))])) t → Steps p.tables e below (s₁.setTop (entryFrame m #[(.ref a1)] 4)) t := fun t k => J1 t (st2 t k)
  have J4 : ∀ t, Steps p.tables e below (T2.setTop (mkF m 7 #[.val (.ref a1), .val (.int (0 : Int32)), .val (.int (Int32.ofNat A)), .unset] [])) t → Steps p.tables e below (s₁.setTop (entryFrame m #[(.ref a1)] 4)) t := fun t k => J3 t (by
      show Steps p.tables e below (T2.setTop (mkF m 6 #[.val (.ref a1), .val (.int (0 : Int32)), .unset, .unset] [(.int (Int32.ofNat A))])) _
      refine XS.istoreN X2.here hx rfl (hb hby d9_6) rfl (l' := #[.val (.ref a1), .val (.int (0 : Int32)), .val (.int (Int32.ofNat A)), .unset]) rfl ?_
      exact k)
  have J5 : ∀ t, Steps p.tables e below (T2.setTop (mkF m 7 #[.val (.ref a1), .val (.int (Int32.ofNat 0)), .val (.int (Int32.ofNat A)), .unset] [])) t → Steps p.tables e below (s₁.setTop (entryFrame m #[(.ref a1)] 4)) t := J4
  obtain ⟨T6, h6, lo6, i'_6, s3'_6, X6, e6, N6, Z6, q6, st6⟩ := loopO a1 a2 cl ff B hx hZ hw hby hml hown Z0 F_bytes_a1 F_to_a1 Ar_a2 L hB 9 A 0 _ _ _ (by omega) hA One.u X2 e2 N0
  rw [q6] at e6
  have J7 : ∀ t, Steps p.tables e below (T6.setTop (mkF m 89 #[.val (.ref a1), .val (.int (Int32.ofNat (0 + own_ct ff B 9 A))), .val (.int i'_6), s3'_6] [])) t → Steps p.tables e below (s₁.setTop (entryFrame m #[(.ref a1)] 4)) t := fun t k => J5 t (st6 t k)
  have J8 : ∀ t, Steps p.tables e below (T6.setTop (mkF m 89 #[.val (.ref a1), .val (.int (Int32.ofNat (own_ct ff B 9 A))), .val (.int i'_6), s3'_6] [])) t → Steps p.tables e below (s₁.setTop (entryFrame m #[(.ref a1)] 4)) t := fun t k => J7 t (by rw [Nat.zero_add]; exact k)
  have J9 : ∀ t, Steps p.tables e below (T6.setTop (mkF m 90 #[.val (.ref a1), .val (.int (Int32.ofNat (own_ct ff B 9 A))), .val (.int i'_6), s3'_6] [(.int (Int32.ofNat (own_ct ff B 9 A)))])) t → Steps p.tables e below (s₁.setTop (entryFrame m #[(.ref a1)] 4)) t := fun t k => J8 t (by
      show Steps p.tables e below (T6.setTop (mkF m 89 #[.val (.ref a1), .val (.int (Int32.ofNat (own_ct ff B 9 A))), .val (.int i'_6), s3'_6] [])) _
      refine XS.iloadN X6.here hx rfl (hb hby d9_89) rfl ?_
      exact k)
  obtain ⟨fs, hr, hrun, hended, hW, hsame⟩ := X6.leave (v := some (.int (Int32.ofNat (own_ct ff B 9 A)))) (fun h => by rw [Bd.returns] at h; cases h)
  refine ⟨_, _, J9 _ ?_, hrun, hended, _, _, rfl, ?_, ⟨_, rfl⟩, hW, hsame.mono (by decide) (by decide)⟩
  · show Steps p.tables e below (T6.setTop (mkF m 90 #[.val (.ref a1), .val (.int (Int32.ofNat (own_ct ff B 9 A))), .val (.int i'_6), s3'_6] [(.int (Int32.ofNat (own_ct ff B 9 A)))])) _
    exact retI X6 hx Bd.returns (hb hby d9_90) hr
  · show Q9 Z a1 a2 cl ff A B h0 n0 _ T6.heap _
    rw [e6]
    exact ⟨rfl, N6, rfl⟩
theorem pd_3 : parseMethodDescriptor "([BIII)I" = some ⟨[(.array .byte), .int, .int, .int], some .int⟩ := by decide +kernel
theorem pd_4 : parseMethodDescriptor "([BIIZ)Z" = some ⟨[(.array .byte), .int, .int, .boolean], some .boolean⟩ := by decide +kernel
theorem pd_5 : parseMethodDescriptor "(IIIZ)I" = some ⟨[.int, .int, .int, .boolean], some .int⟩ := by decide +kernel
theorem pd_6 : parseMethodDescriptor "([BII)V" = some ⟨[(.array .byte), .int, .int], none⟩ := by decide +kernel
theorem pd_7 : parseMethodDescriptor "()I" = some ⟨[], some .int⟩ := by decide +kernel
theorem pn_0 : plainName "com/example/wisteria/wisteria/value/TextValueCharacterCountBeforeNulPinLaw" = true := by first | (simp [plainName, overriddenIn]; done) | decide +kernel
theorem ef_0_xx (m : MethodId) (x0 : Int64) (x1 : Int32) : entryFrame m #[(.long x0), (.int x1)] maxLocals = mkF m 0 #[.val (.long x0), .second, .val (.int x1), .unset, .unset, .unset, .unset, .unset, .unset, .unset, .unset, .unset, .unset, .unset, .unset, .unset, .unset] [] := by first | (simp [entryFrame, mkF, argsToLocals, Value.category, maxLocals]; done) | rfl
def Q0 (Z : State) (q1 : Int64) (p2 : Int32) (h0 : Heap) (n0 : Nat) (v : Option Value) (h : Heap) (L : List Loc) : Prop := v = some (.int (1 : Int32)) ∧ Fr n0 L
set_option maxRecDepth 65536 in
set_option maxHeartbeats 40000000 in
theorem rm0 (l : Launch) (Z : State) (a0 : Array Value) (hw : ∀ d ∈ tables_1, d.before a0 Z = true) (ws : List Jvm.Cond) (q1 : Int64) (p2 : Int32) (h0 : Heap) (n0 : Nat) (Z0 : n0 ≤ h0.size) :
    MetFree l x (head1 (Jvm.Cond.code x code maxLocals ret :: ws) room_1) (fun a U => a = #[(.long q1), (.int p2)] ∧ Z.Warmed39 U.vm ∧ U.heap = h0) (fun _ _ _ _ _ => True) (fun _ U o U' => ∃ v L, o = .returned v ∧ Q0 Z q1 p2 h0 n0 v U'.heap L ∧ FrameEnd U o U' L room_1.cells room_1.slots) := by
  refine MetFree.of_bodySF (plainFor_of_name pn_0) hisR ?_
  intro p e s m args below meth c s₁ Bd hml0 hP hK
  obtain ⟨rfl, hZ, hh⟩ := hP
  have hx := Bd.exec
  have hby := Bd.bytes
  have hml : c.maxLocals = 17 := hml0
  have hown : s.vm.findClass "com/example/wisteria/wisteria/value/TextValueCharacterCountBeforeNulPinLaw" = some m.cls := findClass_of_methodNamed Bd.named
  have hnm := (name_of_methodNamed Bd.named Bd.method).1
  have X0 : Stand p l e room_1 s m #[(.long q1), (.int p2)] below meth c s₁ [] 0 0 := Stand.of_body Bd
  have e0 : s₁.heap = h0 := by rw [← hh, Bd.state]; rfl
  have N0 := Fr.nil n0
  have pre0 : ∀ t, Steps p.tables e below (s₁.setTop (mkF m 0 #[.val (.long q1), .second, .val (.int p2), .unset, .unset, .unset, .unset, .unset, .unset, .unset, .unset, .unset, .unset, .unset, .unset, .unset, .unset] [])) t → Steps p.tables e below (s₁.setTop (entryFrame m #[(.long q1), (.int p2)] maxLocals)) t := fun t k => castTop (ef_0_xx m q1 p2) k
  have J1 : ∀ t, Steps p.tables e below (s₁.setTop (mkF m 2 #[.val (.long q1), .second, .val (.int p2), .unset, .unset, .unset, .unset, .unset, .unset, .unset, .unset, .unset, .unset, .unset, .unset, .unset, .unset] [(.int (8 : Int32))])) t → Steps p.tables e below (s₁.setTop (entryFrame m #[(.long q1), (.int p2)] maxLocals)) t := fun t k => pre0 t (by
      show Steps p.tables e below (s₁.setTop (mkF m 0 #[.val (.long q1), .second, .val (.int p2), .unset, .unset, .unset, .unset, .unset, .unset, .unset, .unset, .unset, .unset, .unset, .unset, .unset, .unset] [])) _
      refine XS.bipush X0.here hx rfl (hb hby at_0) ?_
      exact k)
  obtain ⟨T2, h2, k2, X2, e2, E2, A2, st2⟩ := newP X0 hx hZ (hw _ (List.mem_of_getElem? (i := 0) rfl)) e0 (g := (mkF m 2 #[.val (.long q1), .second, .val (.int p2), .unset, .unset, .unset, .unset, .unset, .unset, .unset, .unset, .unset, .unset, .unset, .unset, .unset, .unset] [(.int (8 : Int32))])) rfl (hb hby at_2) rfl (by decide) (cap := 8) (by decide) (by decide) (by decide) (by decide)
  obtain ⟨b2, g2⟩ : ∃ z, z = h0.size := ⟨_, rfl⟩
  rw [← g2] at A2 st2
  obtain ⟨cl2, hcl2⟩ : ∃ z, z = newA k2 .byte (8 : Int32) := ⟨_, rfl⟩
  have Aw2 : Arr Z h2 b2 cl2 .byte := by rw [hcl2]; exact A2
  have J3 : ∀ t, Steps p.tables e below (T2.setTop (mkF m 4 #[.val (.long q1), .second, .val (.int p2), .unset, .unset, .unset, .unset, .unset, .unset, .unset, .unset, .unset, .unset, .unset, .unset, .unset, .unset] [(.ref b2)])) t → Steps p.tables e below (s₁.setTop (entryFrame m #[(.long q1), (.int p2)] maxLocals)) t := fun t k => J1 t (st2 t k)
  have ge4 : n0 ≤ b2 := Nat.le_trans Z0 (Nat.le_of_eq g2.symm)
  have Z5 : n0 ≤ h2.size := Nat.le_trans Z0 E2.1
  have LA2 := own_BA0 hcl2
  have J6 : ∀ t, Steps p.tables e below (T2.setTop (mkF m 10 #[.val (.long q1), .second, .val (.int p2), .val (.ref b2), .unset, .unset, .unset, .unset, .unset, .unset, .unset, .unset, .unset, .unset, .unset, .unset, .unset] [(.int ((q1.toInt32).toInt8.toInt32)), (.int (0 : Int32)), (.ref b2)])) t → Steps p.tables e below (s₁.setTop (entryFrame m #[(.long q1), (.int p2)] maxLocals)) t := fun t k => J3 t (by
      show Steps p.tables e below (T2.setTop (mkF m 4 #[.val (.long q1), .second, .val (.int p2), .unset, .unset, .unset, .unset, .unset, .unset, .unset, .unset, .unset, .unset, .unset, .unset, .unset, .unset] [(.ref b2)])) _
      refine XS.astoreN X2.here hx rfl (hb hby at_4) rfl rfl (l' := #[.val (.long q1), .second, .val (.int p2), .val (.ref b2), .unset, .unset, .unset, .unset, .unset, .unset, .unset, .unset, .unset, .unset, .unset, .unset, .unset]) rfl ?_
      show Steps p.tables e below (T2.setTop (mkF m 5 #[.val (.long q1), .second, .val (.int p2), .val (.ref b2), .unset, .unset, .unset, .unset, .unset, .unset, .unset, .unset, .unset, .unset, .unset, .unset, .unset] [])) _
      refine XS.aloadN X2.here hx rfl (hb hby at_5) rfl rfl ?_
      show Steps p.tables e below (T2.setTop (mkF m 6 #[.val (.long q1), .second, .val (.int p2), .val (.ref b2), .unset, .unset, .unset, .unset, .unset, .unset, .unset, .unset, .unset, .unset, .unset, .unset, .unset] [(.ref b2)])) _
      refine XS.iconst X2.here hx rfl (hb hby at_6) ?_
      show Steps p.tables e below (T2.setTop (mkF m 7 #[.val (.long q1), .second, .val (.int p2), .val (.ref b2), .unset, .unset, .unset, .unset, .unset, .unset, .unset, .unset, .unset, .unset, .unset, .unset, .unset] [(.int (0 : Int32)), (.ref b2)])) _
      refine XS.lloadN X2.here hx rfl (hb hby at_7) rfl ?_
      show Steps p.tables e below (T2.setTop (mkF m 8 #[.val (.long q1), .second, .val (.int p2), .val (.ref b2), .unset, .unset, .unset, .unset, .unset, .unset, .unset, .unset, .unset, .unset, .unset, .unset, .unset] [(.long q1), (.int (0 : Int32)), (.ref b2)])) _
      refine XS.l2i X2.here hx rfl (hb hby at_8) rfl ?_
      show Steps p.tables e below (T2.setTop (mkF m 9 #[.val (.long q1), .second, .val (.int p2), .val (.ref b2), .unset, .unset, .unset, .unset, .unset, .unset, .unset, .unset, .unset, .unset, .unset, .unset, .unset] [(.int (q1.toInt32)), (.int (0 : Int32)), (.ref b2)])) _
      refine XS.i2b X2.here hx rfl (hb hby at_9) rfl ?_
      exact k)
  obtain ⟨T7, h7, X7, e7, W7, st7⟩ := stB X2 hx hZ e2 Aw2 (j := (0 : Int32)) (own_inb LA2 (by decide) (by decide) (by decide : 0 < 8)) (g := (mkF m 10 #[.val (.long q1), .second, .val (.int p2), .val (.ref b2), .unset, .unset, .unset, .unset, .unset, .unset, .unset, .unset, .unset, .unset, .unset, .unset, .unset] [(.int ((q1.toInt32).toInt8.toInt32)), (.int (0 : Int32)), (.ref b2)])) rfl rfl (hb hby at_10)
  have J8 : ∀ t, Steps p.tables e below (T7.setTop (mkF m 11 #[.val (.long q1), .second, .val (.int p2), .val (.ref b2), .unset, .unset, .unset, .unset, .unset, .unset, .unset, .unset, .unset, .unset, .unset, .unset, .unset] [])) t → Steps p.tables e below (s₁.setTop (entryFrame m #[(.long q1), (.int p2)] maxLocals)) t := fun t k => J6 t (st7 t k)
  have Z9 : n0 ≤ h7.size := Nat.le_trans Z5 (Keep.of_wr W7).1
  have N10 := Fr.snoc X7 N0 ge4
  obtain ⟨cl7, hcl7⟩ : ∃ z, z = cl2.setSlot ((0 : Int32)).toNatClampNeg (.int (nar .byte ((q1.toInt32).toInt8.toInt32))) := ⟨_, rfl⟩
  have Aw7 : Arr Z h7 b2 cl7 .byte := by rw [hcl7]; exact Aw2.same W7
  have LA7 := own_BAset LA2 (by decide) (by decide : 0 < 8) hcl7
  have J11 : ∀ t, Steps p.tables e below (T7.setTop (mkF m 19 #[.val (.long q1), .second, .val (.int p2), .val (.ref b2), .unset, .unset, .unset, .unset, .unset, .unset, .unset, .unset, .unset, .unset, .unset, .unset, .unset] [(.int ((((q1.toUInt64 >>> ((8 : Int32) &&& 0x3f).toInt64.toUInt64).toInt64).toInt32).toInt8.toInt32)), (.int (1 : Int32)), (.ref b2)])) t → Steps p.tables e below (s₁.setTop (entryFrame m #[(.long q1), (.int p2)] maxLocals)) t := fun t k => J8 t (by
      show Steps p.tables e below (T7.setTop (mkF m 11 #[.val (.long q1), .second, .val (.int p2), .val (.ref b2), .unset, .unset, .unset, .unset, .unset, .unset, .unset, .unset, .unset, .unset, .unset, .unset, .unset] [])) _
      refine XS.aloadN X7.here hx rfl (hb hby at_11) rfl rfl ?_
      show Steps p.tables e below (T7.setTop (mkF m 12 #[.val (.long q1), .second, .val (.int p2), .val (.ref b2), .unset, .unset, .unset, .unset, .unset, .unset, .unset, .unset, .unset, .unset, .unset, .unset, .unset] [(.ref b2)])) _
      refine XS.iconst X7.here hx rfl (hb hby at_12) ?_
      show Steps p.tables e below (T7.setTop (mkF m 13 #[.val (.long q1), .second, .val (.int p2), .val (.ref b2), .unset, .unset, .unset, .unset, .unset, .unset, .unset, .unset, .unset, .unset, .unset, .unset, .unset] [(.int (1 : Int32)), (.ref b2)])) _
      refine XS.lloadN X7.here hx rfl (hb hby at_13) rfl ?_
      show Steps p.tables e below (T7.setTop (mkF m 14 #[.val (.long q1), .second, .val (.int p2), .val (.ref b2), .unset, .unset, .unset, .unset, .unset, .unset, .unset, .unset, .unset, .unset, .unset, .unset, .unset] [(.long q1), (.int (1 : Int32)), (.ref b2)])) _
      refine XS.bipush X7.here hx rfl (hb hby at_14) ?_
      show Steps p.tables e below (T7.setTop (mkF m 16 #[.val (.long q1), .second, .val (.int p2), .val (.ref b2), .unset, .unset, .unset, .unset, .unset, .unset, .unset, .unset, .unset, .unset, .unset, .unset, .unset] [(.int (8 : Int32)), (.long q1), (.int (1 : Int32)), (.ref b2)])) _
      refine XS.lushr X7.here hx rfl (hb hby at_16) rfl ?_
      show Steps p.tables e below (T7.setTop (mkF m 17 #[.val (.long q1), .second, .val (.int p2), .val (.ref b2), .unset, .unset, .unset, .unset, .unset, .unset, .unset, .unset, .unset, .unset, .unset, .unset, .unset] [(.long ((q1.toUInt64 >>> ((8 : Int32) &&& 0x3f).toInt64.toUInt64).toInt64)), (.int (1 : Int32)), (.ref b2)])) _
      refine XS.l2i X7.here hx rfl (hb hby at_17) rfl ?_
      show Steps p.tables e below (T7.setTop (mkF m 18 #[.val (.long q1), .second, .val (.int p2), .val (.ref b2), .unset, .unset, .unset, .unset, .unset, .unset, .unset, .unset, .unset, .unset, .unset, .unset, .unset] [(.int (((q1.toUInt64 >>> ((8 : Int32) &&& 0x3f).toInt64.toUInt64).toInt64).toInt32)), (.int (1 : Int32)), (.ref b2)])) _
      refine XS.i2b X7.here hx rfl (hb hby at_18) rfl ?_
      exact k)
  obtain ⟨T12, h12, X12, e12, W12, st12⟩ := stB X7 hx hZ e7 Aw7 (j := (1 : Int32)) (own_inb LA7 (by decide) (by decide) (by decide : 1 < 8)) (g := (mkF m 19 #[.val (.long q1), .second, .val (.int p2), .val (.ref b2), .unset, .unset, .unset, .unset, .unset, .unset, .unset, .unset, .unset, .unset, .unset, .unset, .unset] [(.int ((((q1.toUInt64 >>> ((8 : Int32) &&& 0x3f).toInt64.toUInt64).toInt64).toInt32).toInt8.toInt32)), (.int (1 : Int32)), (.ref b2)])) rfl rfl (hb hby at_19)
  have J13 : ∀ t, Steps p.tables e below (T12.setTop (mkF m 20 #[.val (.long q1), .second, .val (.int p2), .val (.ref b2), .unset, .unset, .unset, .unset, .unset, .unset, .unset, .unset, .unset, .unset, .unset, .unset, .unset] [])) t → Steps p.tables e below (s₁.setTop (entryFrame m #[(.long q1), (.int p2)] maxLocals)) t := fun t k => J11 t (st12 t k)
  have Z14 : n0 ≤ h12.size := Nat.le_trans Z9 (Keep.of_wr W12).1
  have N15 := Fr.snoc X12 N10 ge4
  obtain ⟨cl12, hcl12⟩ : ∃ z, z = cl7.setSlot ((1 : Int32)).toNatClampNeg (.int (nar .byte ((((q1.toUInt64 >>> ((8 : Int32) &&& 0x3f).toInt64.toUInt64).toInt64).toInt32).toInt8.toInt32))) := ⟨_, rfl⟩
  have Aw12 : Arr Z h12 b2 cl12 .byte := by rw [hcl12]; exact Aw7.same W12
  have LA12 := own_BAset LA7 (by decide) (by decide : 1 < 8) hcl12
  have J16 : ∀ t, Steps p.tables e below (T12.setTop (mkF m 28 #[.val (.long q1), .second, .val (.int p2), .val (.ref b2), .unset, .unset, .unset, .unset, .unset, .unset, .unset, .unset, .unset, .unset, .unset, .unset, .unset] [(.int ((((q1.toUInt64 >>> ((16 : Int32) &&& 0x3f).toInt64.toUInt64).toInt64).toInt32).toInt8.toInt32)), (.int (2 : Int32)), (.ref b2)])) t → Steps p.tables e below (s₁.setTop (entryFrame m #[(.long q1), (.int p2)] maxLocals)) t := fun t k => J13 t (by
      show Steps p.tables e below (T12.setTop (mkF m 20 #[.val (.long q1), .second, .val (.int p2), .val (.ref b2), .unset, .unset, .unset, .unset, .unset, .unset, .unset, .unset, .unset, .unset, .unset, .unset, .unset] [])) _
      refine XS.aloadN X12.here hx rfl (hb hby at_20) rfl rfl ?_
      show Steps p.tables e below (T12.setTop (mkF m 21 #[.val (.long q1), .second, .val (.int p2), .val (.ref b2), .unset, .unset, .unset, .unset, .unset, .unset, .unset, .unset, .unset, .unset, .unset, .unset, .unset] [(.ref b2)])) _
      refine XS.iconst X12.here hx rfl (hb hby at_21) ?_
      show Steps p.tables e below (T12.setTop (mkF m 22 #[.val (.long q1), .second, .val (.int p2), .val (.ref b2), .unset, .unset, .unset, .unset, .unset, .unset, .unset, .unset, .unset, .unset, .unset, .unset, .unset] [(.int (2 : Int32)), (.ref b2)])) _
      refine XS.lloadN X12.here hx rfl (hb hby at_22) rfl ?_
      show Steps p.tables e below (T12.setTop (mkF m 23 #[.val (.long q1), .second, .val (.int p2), .val (.ref b2), .unset, .unset, .unset, .unset, .unset, .unset, .unset, .unset, .unset, .unset, .unset, .unset, .unset] [(.long q1), (.int (2 : Int32)), (.ref b2)])) _
      refine XS.bipush X12.here hx rfl (hb hby at_23) ?_
      show Steps p.tables e below (T12.setTop (mkF m 25 #[.val (.long q1), .second, .val (.int p2), .val (.ref b2), .unset, .unset, .unset, .unset, .unset, .unset, .unset, .unset, .unset, .unset, .unset, .unset, .unset] [(.int (16 : Int32)), (.long q1), (.int (2 : Int32)), (.ref b2)])) _
      refine XS.lushr X12.here hx rfl (hb hby at_25) rfl ?_
      show Steps p.tables e below (T12.setTop (mkF m 26 #[.val (.long q1), .second, .val (.int p2), .val (.ref b2), .unset, .unset, .unset, .unset, .unset, .unset, .unset, .unset, .unset, .unset, .unset, .unset, .unset] [(.long ((q1.toUInt64 >>> ((16 : Int32) &&& 0x3f).toInt64.toUInt64).toInt64)), (.int (2 : Int32)), (.ref b2)])) _
      refine XS.l2i X12.here hx rfl (hb hby at_26) rfl ?_
      show Steps p.tables e below (T12.setTop (mkF m 27 #[.val (.long q1), .second, .val (.int p2), .val (.ref b2), .unset, .unset, .unset, .unset, .unset, .unset, .unset, .unset, .unset, .unset, .unset, .unset, .unset] [(.int (((q1.toUInt64 >>> ((16 : Int32) &&& 0x3f).toInt64.toUInt64).toInt64).toInt32)), (.int (2 : Int32)), (.ref b2)])) _
      refine XS.i2b X12.here hx rfl (hb hby at_27) rfl ?_
      exact k)
  obtain ⟨T17, h17, X17, e17, W17, st17⟩ := stB X12 hx hZ e12 Aw12 (j := (2 : Int32)) (own_inb LA12 (by decide) (by decide) (by decide : 2 < 8)) (g := (mkF m 28 #[.val (.long q1), .second, .val (.int p2), .val (.ref b2), .unset, .unset, .unset, .unset, .unset, .unset, .unset, .unset, .unset, .unset, .unset, .unset, .unset] [(.int ((((q1.toUInt64 >>> ((16 : Int32) &&& 0x3f).toInt64.toUInt64).toInt64).toInt32).toInt8.toInt32)), (.int (2 : Int32)), (.ref b2)])) rfl rfl (hb hby at_28)
  have J18 : ∀ t, Steps p.tables e below (T17.setTop (mkF m 29 #[.val (.long q1), .second, .val (.int p2), .val (.ref b2), .unset, .unset, .unset, .unset, .unset, .unset, .unset, .unset, .unset, .unset, .unset, .unset, .unset] [])) t → Steps p.tables e below (s₁.setTop (entryFrame m #[(.long q1), (.int p2)] maxLocals)) t := fun t k => J16 t (st17 t k)
  have Z19 : n0 ≤ h17.size := Nat.le_trans Z14 (Keep.of_wr W17).1
  have N20 := Fr.snoc X17 N15 ge4
  obtain ⟨cl17, hcl17⟩ : ∃ z, z = cl12.setSlot ((2 : Int32)).toNatClampNeg (.int (nar .byte ((((q1.toUInt64 >>> ((16 : Int32) &&& 0x3f).toInt64.toUInt64).toInt64).toInt32).toInt8.toInt32))) := ⟨_, rfl⟩
  have Aw17 : Arr Z h17 b2 cl17 .byte := by rw [hcl17]; exact Aw12.same W17
  have LA17 := own_BAset LA12 (by decide) (by decide : 2 < 8) hcl17
  have J21 : ∀ t, Steps p.tables e below (T17.setTop (mkF m 37 #[.val (.long q1), .second, .val (.int p2), .val (.ref b2), .unset, .unset, .unset, .unset, .unset, .unset, .unset, .unset, .unset, .unset, .unset, .unset, .unset] [(.int ((((q1.toUInt64 >>> ((24 : Int32) &&& 0x3f).toInt64.toUInt64).toInt64).toInt32).toInt8.toInt32)), (.int (3 : Int32)), (.ref b2)])) t → Steps p.tables e below (s₁.setTop (entryFrame m #[(.long q1), (.int p2)] maxLocals)) t := fun t k => J18 t (by
      show Steps p.tables e below (T17.setTop (mkF m 29 #[.val (.long q1), .second, .val (.int p2), .val (.ref b2), .unset, .unset, .unset, .unset, .unset, .unset, .unset, .unset, .unset, .unset, .unset, .unset, .unset] [])) _
      refine XS.aloadN X17.here hx rfl (hb hby at_29) rfl rfl ?_
      show Steps p.tables e below (T17.setTop (mkF m 30 #[.val (.long q1), .second, .val (.int p2), .val (.ref b2), .unset, .unset, .unset, .unset, .unset, .unset, .unset, .unset, .unset, .unset, .unset, .unset, .unset] [(.ref b2)])) _
      refine XS.iconst X17.here hx rfl (hb hby at_30) ?_
      show Steps p.tables e below (T17.setTop (mkF m 31 #[.val (.long q1), .second, .val (.int p2), .val (.ref b2), .unset, .unset, .unset, .unset, .unset, .unset, .unset, .unset, .unset, .unset, .unset, .unset, .unset] [(.int (3 : Int32)), (.ref b2)])) _
      refine XS.lloadN X17.here hx rfl (hb hby at_31) rfl ?_
      show Steps p.tables e below (T17.setTop (mkF m 32 #[.val (.long q1), .second, .val (.int p2), .val (.ref b2), .unset, .unset, .unset, .unset, .unset, .unset, .unset, .unset, .unset, .unset, .unset, .unset, .unset] [(.long q1), (.int (3 : Int32)), (.ref b2)])) _
      refine XS.bipush X17.here hx rfl (hb hby at_32) ?_
      show Steps p.tables e below (T17.setTop (mkF m 34 #[.val (.long q1), .second, .val (.int p2), .val (.ref b2), .unset, .unset, .unset, .unset, .unset, .unset, .unset, .unset, .unset, .unset, .unset, .unset, .unset] [(.int (24 : Int32)), (.long q1), (.int (3 : Int32)), (.ref b2)])) _
      refine XS.lushr X17.here hx rfl (hb hby at_34) rfl ?_
      show Steps p.tables e below (T17.setTop (mkF m 35 #[.val (.long q1), .second, .val (.int p2), .val (.ref b2), .unset, .unset, .unset, .unset, .unset, .unset, .unset, .unset, .unset, .unset, .unset, .unset, .unset] [(.long ((q1.toUInt64 >>> ((24 : Int32) &&& 0x3f).toInt64.toUInt64).toInt64)), (.int (3 : Int32)), (.ref b2)])) _
      refine XS.l2i X17.here hx rfl (hb hby at_35) rfl ?_
      show Steps p.tables e below (T17.setTop (mkF m 36 #[.val (.long q1), .second, .val (.int p2), .val (.ref b2), .unset, .unset, .unset, .unset, .unset, .unset, .unset, .unset, .unset, .unset, .unset, .unset, .unset] [(.int (((q1.toUInt64 >>> ((24 : Int32) &&& 0x3f).toInt64.toUInt64).toInt64).toInt32)), (.int (3 : Int32)), (.ref b2)])) _
      refine XS.i2b X17.here hx rfl (hb hby at_36) rfl ?_
      exact k)
  obtain ⟨T22, h22, X22, e22, W22, st22⟩ := stB X17 hx hZ e17 Aw17 (j := (3 : Int32)) (own_inb LA17 (by decide) (by decide) (by decide : 3 < 8)) (g := (mkF m 37 #[.val (.long q1), .second, .val (.int p2), .val (.ref b2), .unset, .unset, .unset, .unset, .unset, .unset, .unset, .unset, .unset, .unset, .unset, .unset, .unset] [(.int ((((q1.toUInt64 >>> ((24 : Int32) &&& 0x3f).toInt64.toUInt64).toInt64).toInt32).toInt8.toInt32)), (.int (3 : Int32)), (.ref b2)])) rfl rfl (hb hby at_37)
  have J23 : ∀ t, Steps p.tables e below (T22.setTop (mkF m 38 #[.val (.long q1), .second, .val (.int p2), .val (.ref b2), .unset, .unset, .unset, .unset, .unset, .unset, .unset, .unset, .unset, .unset, .unset, .unset, .unset] [])) t → Steps p.tables e below (s₁.setTop (entryFrame m #[(.long q1), (.int p2)] maxLocals)) t := fun t k => J21 t (st22 t k)
  have Z24 : n0 ≤ h22.size := Nat.le_trans Z19 (Keep.of_wr W22).1
  have N25 := Fr.snoc X22 N20 ge4
  obtain ⟨cl22, hcl22⟩ : ∃ z, z = cl17.setSlot ((3 : Int32)).toNatClampNeg (.int (nar .byte ((((q1.toUInt64 >>> ((24 : Int32) &&& 0x3f).toInt64.toUInt64).toInt64).toInt32).toInt8.toInt32))) := ⟨_, rfl⟩
  have Aw22 : Arr Z h22 b2 cl22 .byte := by rw [hcl22]; exact Aw17.same W22
  have LA22 := own_BAset LA17 (by decide) (by decide : 3 < 8) hcl22
  have J26 : ∀ t, Steps p.tables e below (T22.setTop (mkF m 46 #[.val (.long q1), .second, .val (.int p2), .val (.ref b2), .unset, .unset, .unset, .unset, .unset, .unset, .unset, .unset, .unset, .unset, .unset, .unset, .unset] [(.int ((((q1.toUInt64 >>> ((32 : Int32) &&& 0x3f).toInt64.toUInt64).toInt64).toInt32).toInt8.toInt32)), (.int (4 : Int32)), (.ref b2)])) t → Steps p.tables e below (s₁.setTop (entryFrame m #[(.long q1), (.int p2)] maxLocals)) t := fun t k => J23 t (by
      show Steps p.tables e below (T22.setTop (mkF m 38 #[.val (.long q1), .second, .val (.int p2), .val (.ref b2), .unset, .unset, .unset, .unset, .unset, .unset, .unset, .unset, .unset, .unset, .unset, .unset, .unset] [])) _
      refine XS.aloadN X22.here hx rfl (hb hby at_38) rfl rfl ?_
      show Steps p.tables e below (T22.setTop (mkF m 39 #[.val (.long q1), .second, .val (.int p2), .val (.ref b2), .unset, .unset, .unset, .unset, .unset, .unset, .unset, .unset, .unset, .unset, .unset, .unset, .unset] [(.ref b2)])) _
      refine XS.iconst X22.here hx rfl (hb hby at_39) ?_
      show Steps p.tables e below (T22.setTop (mkF m 40 #[.val (.long q1), .second, .val (.int p2), .val (.ref b2), .unset, .unset, .unset, .unset, .unset, .unset, .unset, .unset, .unset, .unset, .unset, .unset, .unset] [(.int (4 : Int32)), (.ref b2)])) _
      refine XS.lloadN X22.here hx rfl (hb hby at_40) rfl ?_
      show Steps p.tables e below (T22.setTop (mkF m 41 #[.val (.long q1), .second, .val (.int p2), .val (.ref b2), .unset, .unset, .unset, .unset, .unset, .unset, .unset, .unset, .unset, .unset, .unset, .unset, .unset] [(.long q1), (.int (4 : Int32)), (.ref b2)])) _
      refine XS.bipush X22.here hx rfl (hb hby at_41) ?_
      show Steps p.tables e below (T22.setTop (mkF m 43 #[.val (.long q1), .second, .val (.int p2), .val (.ref b2), .unset, .unset, .unset, .unset, .unset, .unset, .unset, .unset, .unset, .unset, .unset, .unset, .unset] [(.int (32 : Int32)), (.long q1), (.int (4 : Int32)), (.ref b2)])) _
      refine XS.lushr X22.here hx rfl (hb hby at_43) rfl ?_
      show Steps p.tables e below (T22.setTop (mkF m 44 #[.val (.long q1), .second, .val (.int p2), .val (.ref b2), .unset, .unset, .unset, .unset, .unset, .unset, .unset, .unset, .unset, .unset, .unset, .unset, .unset] [(.long ((q1.toUInt64 >>> ((32 : Int32) &&& 0x3f).toInt64.toUInt64).toInt64)), (.int (4 : Int32)), (.ref b2)])) _
      refine XS.l2i X22.here hx rfl (hb hby at_44) rfl ?_
      show Steps p.tables e below (T22.setTop (mkF m 45 #[.val (.long q1), .second, .val (.int p2), .val (.ref b2), .unset, .unset, .unset, .unset, .unset, .unset, .unset, .unset, .unset, .unset, .unset, .unset, .unset] [(.int (((q1.toUInt64 >>> ((32 : Int32) &&& 0x3f).toInt64.toUInt64).toInt64).toInt32)), (.int (4 : Int32)), (.ref b2)])) _
      refine XS.i2b X22.here hx rfl (hb hby at_45) rfl ?_
      exact k)
  obtain ⟨T27, h27, X27, e27, W27, st27⟩ := stB X22 hx hZ e22 Aw22 (j := (4 : Int32)) (own_inb LA22 (by decide) (by decide) (by decide : 4 < 8)) (g := (mkF m 46 #[.val (.long q1), .second, .val (.int p2), .val (.ref b2), .unset, .unset, .unset, .unset, .unset, .unset, .unset, .unset, .unset, .unset, .unset, .unset, .unset] [(.int ((((q1.toUInt64 >>> ((32 : Int32) &&& 0x3f).toInt64.toUInt64).toInt64).toInt32).toInt8.toInt32)), (.int (4 : Int32)), (.ref b2)])) rfl rfl (hb hby at_46)
  have J28 : ∀ t, Steps p.tables e below (T27.setTop (mkF m 47 #[.val (.long q1), .second, .val (.int p2), .val (.ref b2), .unset, .unset, .unset, .unset, .unset, .unset, .unset, .unset, .unset, .unset, .unset, .unset, .unset] [])) t → Steps p.tables e below (s₁.setTop (entryFrame m #[(.long q1), (.int p2)] maxLocals)) t := fun t k => J26 t (st27 t k)
  have Z29 : n0 ≤ h27.size := Nat.le_trans Z24 (Keep.of_wr W27).1
  have N30 := Fr.snoc X27 N25 ge4
  obtain ⟨cl27, hcl27⟩ : ∃ z, z = cl22.setSlot ((4 : Int32)).toNatClampNeg (.int (nar .byte ((((q1.toUInt64 >>> ((32 : Int32) &&& 0x3f).toInt64.toUInt64).toInt64).toInt32).toInt8.toInt32))) := ⟨_, rfl⟩
  have Aw27 : Arr Z h27 b2 cl27 .byte := by rw [hcl27]; exact Aw22.same W27
  have LA27 := own_BAset LA22 (by decide) (by decide : 4 < 8) hcl27
  have J31 : ∀ t, Steps p.tables e below (T27.setTop (mkF m 55 #[.val (.long q1), .second, .val (.int p2), .val (.ref b2), .unset, .unset, .unset, .unset, .unset, .unset, .unset, .unset, .unset, .unset, .unset, .unset, .unset] [(.int ((((q1.toUInt64 >>> ((40 : Int32) &&& 0x3f).toInt64.toUInt64).toInt64).toInt32).toInt8.toInt32)), (.int (5 : Int32)), (.ref b2)])) t → Steps p.tables e below (s₁.setTop (entryFrame m #[(.long q1), (.int p2)] maxLocals)) t := fun t k => J28 t (by
      show Steps p.tables e below (T27.setTop (mkF m 47 #[.val (.long q1), .second, .val (.int p2), .val (.ref b2), .unset, .unset, .unset, .unset, .unset, .unset, .unset, .unset, .unset, .unset, .unset, .unset, .unset] [])) _
      refine XS.aloadN X27.here hx rfl (hb hby at_47) rfl rfl ?_
      show Steps p.tables e below (T27.setTop (mkF m 48 #[.val (.long q1), .second, .val (.int p2), .val (.ref b2), .unset, .unset, .unset, .unset, .unset, .unset, .unset, .unset, .unset, .unset, .unset, .unset, .unset] [(.ref b2)])) _
      refine XS.iconst X27.here hx rfl (hb hby at_48) ?_
      show Steps p.tables e below (T27.setTop (mkF m 49 #[.val (.long q1), .second, .val (.int p2), .val (.ref b2), .unset, .unset, .unset, .unset, .unset, .unset, .unset, .unset, .unset, .unset, .unset, .unset, .unset] [(.int (5 : Int32)), (.ref b2)])) _
      refine XS.lloadN X27.here hx rfl (hb hby at_49) rfl ?_
      show Steps p.tables e below (T27.setTop (mkF m 50 #[.val (.long q1), .second, .val (.int p2), .val (.ref b2), .unset, .unset, .unset, .unset, .unset, .unset, .unset, .unset, .unset, .unset, .unset, .unset, .unset] [(.long q1), (.int (5 : Int32)), (.ref b2)])) _
      refine XS.bipush X27.here hx rfl (hb hby at_50) ?_
      show Steps p.tables e below (T27.setTop (mkF m 52 #[.val (.long q1), .second, .val (.int p2), .val (.ref b2), .unset, .unset, .unset, .unset, .unset, .unset, .unset, .unset, .unset, .unset, .unset, .unset, .unset] [(.int (40 : Int32)), (.long q1), (.int (5 : Int32)), (.ref b2)])) _
      refine XS.lushr X27.here hx rfl (hb hby at_52) rfl ?_
      show Steps p.tables e below (T27.setTop (mkF m 53 #[.val (.long q1), .second, .val (.int p2), .val (.ref b2), .unset, .unset, .unset, .unset, .unset, .unset, .unset, .unset, .unset, .unset, .unset, .unset, .unset] [(.long ((q1.toUInt64 >>> ((40 : Int32) &&& 0x3f).toInt64.toUInt64).toInt64)), (.int (5 : Int32)), (.ref b2)])) _
      refine XS.l2i X27.here hx rfl (hb hby at_53) rfl ?_
      show Steps p.tables e below (T27.setTop (mkF m 54 #[.val (.long q1), .second, .val (.int p2), .val (.ref b2), .unset, .unset, .unset, .unset, .unset, .unset, .unset, .unset, .unset, .unset, .unset, .unset, .unset] [(.int (((q1.toUInt64 >>> ((40 : Int32) &&& 0x3f).toInt64.toUInt64).toInt64).toInt32)), (.int (5 : Int32)), (.ref b2)])) _
      refine XS.i2b X27.here hx rfl (hb hby at_54) rfl ?_
      exact k)
  obtain ⟨T32, h32, X32, e32, W32, st32⟩ := stB X27 hx hZ e27 Aw27 (j := (5 : Int32)) (own_inb LA27 (by decide) (by decide) (by decide : 5 < 8)) (g := (mkF m 55 #[.val (.long q1), .second, .val (.int p2), .val (.ref b2), .unset, .unset, .unset, .unset, .unset, .unset, .unset, .unset, .unset, .unset, .unset, .unset, .unset] [(.int ((((q1.toUInt64 >>> ((40 : Int32) &&& 0x3f).toInt64.toUInt64).toInt64).toInt32).toInt8.toInt32)), (.int (5 : Int32)), (.ref b2)])) rfl rfl (hb hby at_55)
  have J33 : ∀ t, Steps p.tables e below (T32.setTop (mkF m 56 #[.val (.long q1), .second, .val (.int p2), .val (.ref b2), .unset, .unset, .unset, .unset, .unset, .unset, .unset, .unset, .unset, .unset, .unset, .unset, .unset] [])) t → Steps p.tables e below (s₁.setTop (entryFrame m #[(.long q1), (.int p2)] maxLocals)) t := fun t k => J31 t (st32 t k)
  have Z34 : n0 ≤ h32.size := Nat.le_trans Z29 (Keep.of_wr W32).1
  have N35 := Fr.snoc X32 N30 ge4
  obtain ⟨cl32, hcl32⟩ : ∃ z, z = cl27.setSlot ((5 : Int32)).toNatClampNeg (.int (nar .byte ((((q1.toUInt64 >>> ((40 : Int32) &&& 0x3f).toInt64.toUInt64).toInt64).toInt32).toInt8.toInt32))) := ⟨_, rfl⟩
  have Aw32 : Arr Z h32 b2 cl32 .byte := by rw [hcl32]; exact Aw27.same W32
  have LA32 := own_BAset LA27 (by decide) (by decide : 5 < 8) hcl32
  have J36 : ∀ t, Steps p.tables e below (T32.setTop (mkF m 65 #[.val (.long q1), .second, .val (.int p2), .val (.ref b2), .unset, .unset, .unset, .unset, .unset, .unset, .unset, .unset, .unset, .unset, .unset, .unset, .unset] [(.int ((((q1.toUInt64 >>> ((48 : Int32) &&& 0x3f).toInt64.toUInt64).toInt64).toInt32).toInt8.toInt32)), (.int (6 : Int32)), (.ref b2)])) t → Steps p.tables e below (s₁.setTop (entryFrame m #[(.long q1), (.int p2)] maxLocals)) t := fun t k => J33 t (by
      show Steps p.tables e below (T32.setTop (mkF m 56 #[.val (.long q1), .second, .val (.int p2), .val (.ref b2), .unset, .unset, .unset, .unset, .unset, .unset, .unset, .unset, .unset, .unset, .unset, .unset, .unset] [])) _
      refine XS.aloadN X32.here hx rfl (hb hby at_56) rfl rfl ?_
      show Steps p.tables e below (T32.setTop (mkF m 57 #[.val (.long q1), .second, .val (.int p2), .val (.ref b2), .unset, .unset, .unset, .unset, .unset, .unset, .unset, .unset, .unset, .unset, .unset, .unset, .unset] [(.ref b2)])) _
      refine XS.bipush X32.here hx rfl (hb hby at_57) ?_
      show Steps p.tables e below (T32.setTop (mkF m 59 #[.val (.long q1), .second, .val (.int p2), .val (.ref b2), .unset, .unset, .unset, .unset, .unset, .unset, .unset, .unset, .unset, .unset, .unset, .unset, .unset] [(.int (6 : Int32)), (.ref b2)])) _
      refine XS.lloadN X32.here hx rfl (hb hby at_59) rfl ?_
      show Steps p.tables e below (T32.setTop (mkF m 60 #[.val (.long q1), .second, .val (.int p2), .val (.ref b2), .unset, .unset, .unset, .unset, .unset, .unset, .unset, .unset, .unset, .unset, .unset, .unset, .unset] [(.long q1), (.int (6 : Int32)), (.ref b2)])) _
      refine XS.bipush X32.here hx rfl (hb hby at_60) ?_
      show Steps p.tables e below (T32.setTop (mkF m 62 #[.val (.long q1), .second, .val (.int p2), .val (.ref b2), .unset, .unset, .unset, .unset, .unset, .unset, .unset, .unset, .unset, .unset, .unset, .unset, .unset] [(.int (48 : Int32)), (.long q1), (.int (6 : Int32)), (.ref b2)])) _
      refine XS.lushr X32.here hx rfl (hb hby at_62) rfl ?_
      show Steps p.tables e below (T32.setTop (mkF m 63 #[.val (.long q1), .second, .val (.int p2), .val (.ref b2), .unset, .unset, .unset, .unset, .unset, .unset, .unset, .unset, .unset, .unset, .unset, .unset, .unset] [(.long ((q1.toUInt64 >>> ((48 : Int32) &&& 0x3f).toInt64.toUInt64).toInt64)), (.int (6 : Int32)), (.ref b2)])) _
      refine XS.l2i X32.here hx rfl (hb hby at_63) rfl ?_
      show Steps p.tables e below (T32.setTop (mkF m 64 #[.val (.long q1), .second, .val (.int p2), .val (.ref b2), .unset, .unset, .unset, .unset, .unset, .unset, .unset, .unset, .unset, .unset, .unset, .unset, .unset] [(.int (((q1.toUInt64 >>> ((48 : Int32) &&& 0x3f).toInt64.toUInt64).toInt64).toInt32)), (.int (6 : Int32)), (.ref b2)])) _
      refine XS.i2b X32.here hx rfl (hb hby at_64) rfl ?_
      exact k)
  obtain ⟨T37, h37, X37, e37, W37, st37⟩ := stB X32 hx hZ e32 Aw32 (j := (6 : Int32)) (own_inb LA32 (by decide) (by decide) (by decide : 6 < 8)) (g := (mkF m 65 #[.val (.long q1), .second, .val (.int p2), .val (.ref b2), .unset, .unset, .unset, .unset, .unset, .unset, .unset, .unset, .unset, .unset, .unset, .unset, .unset] [(.int ((((q1.toUInt64 >>> ((48 : Int32) &&& 0x3f).toInt64.toUInt64).toInt64).toInt32).toInt8.toInt32)), (.int (6 : Int32)), (.ref b2)])) rfl rfl (hb hby at_65)
  have J38 : ∀ t, Steps p.tables e below (T37.setTop (mkF m 66 #[.val (.long q1), .second, .val (.int p2), .val (.ref b2), .unset, .unset, .unset, .unset, .unset, .unset, .unset, .unset, .unset, .unset, .unset, .unset, .unset] [])) t → Steps p.tables e below (s₁.setTop (entryFrame m #[(.long q1), (.int p2)] maxLocals)) t := fun t k => J36 t (st37 t k)
  have Z39 : n0 ≤ h37.size := Nat.le_trans Z34 (Keep.of_wr W37).1
  have N40 := Fr.snoc X37 N35 ge4
  obtain ⟨cl37, hcl37⟩ : ∃ z, z = cl32.setSlot ((6 : Int32)).toNatClampNeg (.int (nar .byte ((((q1.toUInt64 >>> ((48 : Int32) &&& 0x3f).toInt64.toUInt64).toInt64).toInt32).toInt8.toInt32))) := ⟨_, rfl⟩
  have Aw37 : Arr Z h37 b2 cl37 .byte := by rw [hcl37]; exact Aw32.same W37
  have LA37 := own_BAset LA32 (by decide) (by decide : 6 < 8) hcl37
  have J41 : ∀ t, Steps p.tables e below (T37.setTop (mkF m 75 #[.val (.long q1), .second, .val (.int p2), .val (.ref b2), .unset, .unset, .unset, .unset, .unset, .unset, .unset, .unset, .unset, .unset, .unset, .unset, .unset] [(.int ((((q1.toUInt64 >>> ((56 : Int32) &&& 0x3f).toInt64.toUInt64).toInt64).toInt32).toInt8.toInt32)), (.int (7 : Int32)), (.ref b2)])) t → Steps p.tables e below (s₁.setTop (entryFrame m #[(.long q1), (.int p2)] maxLocals)) t := fun t k => J38 t (by
      show Steps p.tables e below (T37.setTop (mkF m 66 #[.val (.long q1), .second, .val (.int p2), .val (.ref b2), .unset, .unset, .unset, .unset, .unset, .unset, .unset, .unset, .unset, .unset, .unset, .unset, .unset] [])) _
      refine XS.aloadN X37.here hx rfl (hb hby at_66) rfl rfl ?_
      show Steps p.tables e below (T37.setTop (mkF m 67 #[.val (.long q1), .second, .val (.int p2), .val (.ref b2), .unset, .unset, .unset, .unset, .unset, .unset, .unset, .unset, .unset, .unset, .unset, .unset, .unset] [(.ref b2)])) _
      refine XS.bipush X37.here hx rfl (hb hby at_67) ?_
      show Steps p.tables e below (T37.setTop (mkF m 69 #[.val (.long q1), .second, .val (.int p2), .val (.ref b2), .unset, .unset, .unset, .unset, .unset, .unset, .unset, .unset, .unset, .unset, .unset, .unset, .unset] [(.int (7 : Int32)), (.ref b2)])) _
      refine XS.lloadN X37.here hx rfl (hb hby at_69) rfl ?_
      show Steps p.tables e below (T37.setTop (mkF m 70 #[.val (.long q1), .second, .val (.int p2), .val (.ref b2), .unset, .unset, .unset, .unset, .unset, .unset, .unset, .unset, .unset, .unset, .unset, .unset, .unset] [(.long q1), (.int (7 : Int32)), (.ref b2)])) _
      refine XS.bipush X37.here hx rfl (hb hby at_70) ?_
      show Steps p.tables e below (T37.setTop (mkF m 72 #[.val (.long q1), .second, .val (.int p2), .val (.ref b2), .unset, .unset, .unset, .unset, .unset, .unset, .unset, .unset, .unset, .unset, .unset, .unset, .unset] [(.int (56 : Int32)), (.long q1), (.int (7 : Int32)), (.ref b2)])) _
      refine XS.lushr X37.here hx rfl (hb hby at_72) rfl ?_
      show Steps p.tables e below (T37.setTop (mkF m 73 #[.val (.long q1), .second, .val (.int p2), .val (.ref b2), .unset, .unset, .unset, .unset, .unset, .unset, .unset, .unset, .unset, .unset, .unset, .unset, .unset] [(.long ((q1.toUInt64 >>> ((56 : Int32) &&& 0x3f).toInt64.toUInt64).toInt64)), (.int (7 : Int32)), (.ref b2)])) _
      refine XS.l2i X37.here hx rfl (hb hby at_73) rfl ?_
      show Steps p.tables e below (T37.setTop (mkF m 74 #[.val (.long q1), .second, .val (.int p2), .val (.ref b2), .unset, .unset, .unset, .unset, .unset, .unset, .unset, .unset, .unset, .unset, .unset, .unset, .unset] [(.int (((q1.toUInt64 >>> ((56 : Int32) &&& 0x3f).toInt64.toUInt64).toInt64).toInt32)), (.int (7 : Int32)), (.ref b2)])) _
      refine XS.i2b X37.here hx rfl (hb hby at_74) rfl ?_
      exact k)
  obtain ⟨T42, h42, X42, e42, W42, st42⟩ := stB X37 hx hZ e37 Aw37 (j := (7 : Int32)) (own_inb LA37 (by decide) (by decide) (by decide : 7 < 8)) (g := (mkF m 75 #[.val (.long q1), .second, .val (.int p2), .val (.ref b2), .unset, .unset, .unset, .unset, .unset, .unset, .unset, .unset, .unset, .unset, .unset, .unset, .unset] [(.int ((((q1.toUInt64 >>> ((56 : Int32) &&& 0x3f).toInt64.toUInt64).toInt64).toInt32).toInt8.toInt32)), (.int (7 : Int32)), (.ref b2)])) rfl rfl (hb hby at_75)
  have J43 : ∀ t, Steps p.tables e below (T42.setTop (mkF m 76 #[.val (.long q1), .second, .val (.int p2), .val (.ref b2), .unset, .unset, .unset, .unset, .unset, .unset, .unset, .unset, .unset, .unset, .unset, .unset, .unset] [])) t → Steps p.tables e below (s₁.setTop (entryFrame m #[(.long q1), (.int p2)] maxLocals)) t := fun t k => J41 t (st42 t k)
  have Z44 : n0 ≤ h42.size := Nat.le_trans Z39 (Keep.of_wr W42).1
  have N45 := Fr.snoc X42 N40 ge4
  obtain ⟨cl42, hcl42⟩ : ∃ z, z = cl37.setSlot ((7 : Int32)).toNatClampNeg (.int (nar .byte ((((q1.toUInt64 >>> ((56 : Int32) &&& 0x3f).toInt64.toUInt64).toInt64).toInt32).toInt8.toInt32))) := ⟨_, rfl⟩
  have Aw42 : Arr Z h42 b2 cl42 .byte := by rw [hcl42]; exact Aw37.same W42
  have LA42 := own_BAset LA37 (by decide) (by decide : 7 < 8) hcl42
  obtain ⟨ff, L⟩ : ∃ ff, own_BA cl42 ff := ⟨_, LA42⟩
  have J46 : ∀ t, Steps p.tables e below (T42.setTop (mkF m 85 #[.val (.long q1), .second, .val (.int p2), .val (.ref b2), .val (.int ((p2 &&& (2147483647 : Int32)) % (9 : Int32))), .unset, .unset, .unset, .unset, .unset, .unset, .unset, .unset, .unset, .unset, .unset, .unset] [])) t → Steps p.tables e below (s₁.setTop (entryFrame m #[(.long q1), (.int p2)] maxLocals)) t := fun t k => J43 t (by
      show Steps p.tables e below (T42.setTop (mkF m 76 #[.val (.long q1), .second, .val (.int p2), .val (.ref b2), .unset, .unset, .unset, .unset, .unset, .unset, .unset, .unset, .unset, .unset, .unset, .unset, .unset] [])) _
      refine XS.iloadN X42.here hx rfl (hb hby at_76) rfl ?_
      show Steps p.tables e below (T42.setTop (mkF m 77 #[.val (.long q1), .second, .val (.int p2), .val (.ref b2), .unset, .unset, .unset, .unset, .unset, .unset, .unset, .unset, .unset, .unset, .unset, .unset, .unset] [(.int p2)])) _
      refine X42.ldcInt hx hown (mvT hZ (hw _ (List.mem_of_getElem? (i := 1) rfl))) (g := (mkF m 77 #[.val (.long q1), .second, .val (.int p2), .val (.ref b2), .unset, .unset, .unset, .unset, .unset, .unset, .unset, .unset, .unset, .unset, .unset, .unset, .unset] [(.int p2)])) rfl (hb hby at_77) _ ?_
      show Steps p.tables e below (T42.setTop (mkF m 79 #[.val (.long q1), .second, .val (.int p2), .val (.ref b2), .unset, .unset, .unset, .unset, .unset, .unset, .unset, .unset, .unset, .unset, .unset, .unset, .unset] [(.int (2147483647 : Int32)), (.int p2)])) _
      refine XS.iand X42.here hx rfl (hb hby at_79) rfl ?_
      show Steps p.tables e below (T42.setTop (mkF m 80 #[.val (.long q1), .second, .val (.int p2), .val (.ref b2), .unset, .unset, .unset, .unset, .unset, .unset, .unset, .unset, .unset, .unset, .unset, .unset, .unset] [(.int (p2 &&& (2147483647 : Int32)))])) _
      refine XS.bipush X42.here hx rfl (hb hby at_80) ?_
      show Steps p.tables e below (T42.setTop (mkF m 82 #[.val (.long q1), .second, .val (.int p2), .val (.ref b2), .unset, .unset, .unset, .unset, .unset, .unset, .unset, .unset, .unset, .unset, .unset, .unset, .unset] [(.int (9 : Int32)), (.int (p2 &&& (2147483647 : Int32)))])) _
      refine iremM X42 hx rfl (hb hby at_82) rfl (by decide) ?_
      show Steps p.tables e below (T42.setTop (mkF m 83 #[.val (.long q1), .second, .val (.int p2), .val (.ref b2), .unset, .unset, .unset, .unset, .unset, .unset, .unset, .unset, .unset, .unset, .unset, .unset, .unset] [(.int ((p2 &&& (2147483647 : Int32)) % (9 : Int32)))])) _
      refine XS.istore X42.here hx rfl (hb hby at_83) rfl (l' := #[.val (.long q1), .second, .val (.int p2), .val (.ref b2), .val (.int ((p2 &&& (2147483647 : Int32)) % (9 : Int32))), .unset, .unset, .unset, .unset, .unset, .unset, .unset, .unset, .unset, .unset, .unset, .unset]) rfl ?_
      exact k)
  obtain ⟨a, ha⟩ : ∃ z : Int32, z = ((p2 &&& (2147483647 : Int32)) % (9 : Int32)) := ⟨_, rfl⟩
  have J47 : ∀ t, Steps p.tables e below (T42.setTop (mkF m 85 #[.val (.long q1), .second, .val (.int p2), .val (.ref b2), .val (.int a), .unset, .unset, .unset, .unset, .unset, .unset, .unset, .unset, .unset, .unset, .unset, .unset] [])) t → Steps p.tables e below (s₁.setTop (entryFrame m #[(.long q1), (.int p2)] maxLocals)) t := fun t k => J46 t (by subst ha; exact k)
  obtain ⟨A, hA, rfl⟩ := own_from p2 a ha
  have J48 : ∀ t, Steps p.tables e below (T42.setTop (mkF m 102 #[.val (.long q1), .second, .val (.int p2), .val (.ref b2), .val (.int (Int32.ofNat A)), .val (.int ((Int32.ofNat A) + ((((p2.toUInt32 >>> ((4 : Int32) &&& 31).toUInt32).toInt32) &&& (2147483647 : Int32)) % ((9 : Int32) - (Int32.ofNat A))))), .unset, .unset, .unset, .unset, .unset, .unset, .unset, .unset, .unset, .unset, .unset] [])) t → Steps p.tables e below (s₁.setTop (entryFrame m #[(.long q1), (.int p2)] maxLocals)) t := fun t k => J47 t (by
      show Steps p.tables e below (T42.setTop (mkF m 85 #[.val (.long q1), .second, .val (.int p2), .val (.ref b2), .val (.int (Int32.ofNat A)), .unset, .unset, .unset, .unset, .unset, .unset, .unset, .unset, .unset, .unset, .unset, .unset] [])) _
      refine XS.iload X42.here hx rfl (hb hby at_85) rfl ?_
      show Steps p.tables e below (T42.setTop (mkF m 87 #[.val (.long q1), .second, .val (.int p2), .val (.ref b2), .val (.int (Int32.ofNat A)), .unset, .unset, .unset, .unset, .unset, .unset, .unset, .unset, .unset, .unset, .unset, .unset] [(.int (Int32.ofNat A))])) _
      refine XS.iloadN X42.here hx rfl (hb hby at_87) rfl ?_
      show Steps p.tables e below (T42.setTop (mkF m 88 #[.val (.long q1), .second, .val (.int p2), .val (.ref b2), .val (.int (Int32.ofNat A)), .unset, .unset, .unset, .unset, .unset, .unset, .unset, .unset, .unset, .unset, .unset, .unset] [(.int p2), (.int (Int32.ofNat A))])) _
      refine XS.iconst X42.here hx rfl (hb hby at_88) ?_
      show Steps p.tables e below (T42.setTop (mkF m 89 #[.val (.long q1), .second, .val (.int p2), .val (.ref b2), .val (.int (Int32.ofNat A)), .unset, .unset, .unset, .unset, .unset, .unset, .unset, .unset, .unset, .unset, .unset, .unset] [(.int (4 : Int32)), (.int p2), (.int (Int32.ofNat A))])) _
      refine XS.iushr X42.here hx rfl (hb hby at_89) rfl ?_
      show Steps p.tables e below (T42.setTop (mkF m 90 #[.val (.long q1), .second, .val (.int p2), .val (.ref b2), .val (.int (Int32.ofNat A)), .unset, .unset, .unset, .unset, .unset, .unset, .unset, .unset, .unset, .unset, .unset, .unset] [(.int ((p2.toUInt32 >>> ((4 : Int32) &&& 31).toUInt32).toInt32)), (.int (Int32.ofNat A))])) _
      refine X42.ldcInt hx hown (mvT hZ (hw _ (List.mem_of_getElem? (i := 1) rfl))) (g := (mkF m 90 #[.val (.long q1), .second, .val (.int p2), .val (.ref b2), .val (.int (Int32.ofNat A)), .unset, .unset, .unset, .unset, .unset, .unset, .unset, .unset, .unset, .unset, .unset, .unset] [(.int ((p2.toUInt32 >>> ((4 : Int32) &&& 31).toUInt32).toInt32)), (.int (Int32.ofNat A))])) rfl (hb hby at_90) _ ?_
      show Steps p.tables e below (T42.setTop (mkF m 92 #[.val (.long q1), .second, .val (.int p2), .val (.ref b2), .val (.int (Int32.ofNat A)), .unset, .unset, .unset, .unset, .unset, .unset, .unset, .unset, .unset, .unset, .unset, .unset] [(.int (2147483647 : Int32)), (.int ((p2.toUInt32 >>> ((4 : Int32) &&& 31).toUInt32).toInt32)), (.int (Int32.ofNat A))])) _
      refine XS.iand X42.here hx rfl (hb hby at_92) rfl ?_
      show Steps p.tables e below (T42.setTop (mkF m 93 #[.val (.long q1), .second, .val (.int p2), .val (.ref b2), .val (.int (Int32.ofNat A)), .unset, .unset, .unset, .unset, .unset, .unset, .unset, .unset, .unset, .unset, .unset, .unset] [(.int (((p2.toUInt32 >>> ((4 : Int32) &&& 31).toUInt32).toInt32) &&& (2147483647 : Int32))), (.int (Int32.ofNat A))])) _
      refine XS.bipush X42.here hx rfl (hb hby at_93) ?_
      show Steps p.tables e below (T42.setTop (mkF m 95 #[.val (.long q1), .second, .val (.int p2), .val (.ref b2), .val (.int (Int32.ofNat A)), .unset, .unset, .unset, .unset, .unset, .unset, .unset, .unset, .unset, .unset, .unset, .unset] [(.int (9 : Int32)), (.int (((p2.toUInt32 >>> ((4 : Int32) &&& 31).toUInt32).toInt32) &&& (2147483647 : Int32))), (.int (Int32.ofNat A))])) _
      refine XS.iload X42.here hx rfl (hb hby at_95) rfl ?_
      show Steps p.tables e below (T42.setTop (mkF m 97 #[.val (.long q1), .second, .val (.int p2), .val (.ref b2), .val (.int (Int32.ofNat A)), .unset, .unset, .unset, .unset, .unset, .unset, .unset, .unset, .unset, .unset, .unset, .unset] [(.int (Int32.ofNat A)), (.int (9 : Int32)), (.int (((p2.toUInt32 >>> ((4 : Int32) &&& 31).toUInt32).toInt32) &&& (2147483647 : Int32))), (.int (Int32.ofNat A))])) _
      refine XS.isub X42.here hx rfl (hb hby at_97) rfl ?_
      show Steps p.tables e below (T42.setTop (mkF m 98 #[.val (.long q1), .second, .val (.int p2), .val (.ref b2), .val (.int (Int32.ofNat A)), .unset, .unset, .unset, .unset, .unset, .unset, .unset, .unset, .unset, .unset, .unset, .unset] [(.int ((9 : Int32) - (Int32.ofNat A))), (.int (((p2.toUInt32 >>> ((4 : Int32) &&& 31).toUInt32).toInt32) &&& (2147483647 : Int32))), (.int (Int32.ofNat A))])) _
      refine iremM X42 hx rfl (hb hby at_98) rfl (own_nz9 hA) ?_
      show Steps p.tables e below (T42.setTop (mkF m 99 #[.val (.long q1), .second, .val (.int p2), .val (.ref b2), .val (.int (Int32.ofNat A)), .unset, .unset, .unset, .unset, .unset, .unset, .unset, .unset, .unset, .unset, .unset, .unset] [(.int ((((p2.toUInt32 >>> ((4 : Int32) &&& 31).toUInt32).toInt32) &&& (2147483647 : Int32)) % ((9 : Int32) - (Int32.ofNat A)))), (.int (Int32.ofNat A))])) _
      refine XS.iadd X42.here hx rfl (hb hby at_99) rfl ?_
      show Steps p.tables e below (T42.setTop (mkF m 100 #[.val (.long q1), .second, .val (.int p2), .val (.ref b2), .val (.int (Int32.ofNat A)), .unset, .unset, .unset, .unset, .unset, .unset, .unset, .unset, .unset, .unset, .unset, .unset] [(.int ((Int32.ofNat A) + ((((p2.toUInt32 >>> ((4 : Int32) &&& 31).toUInt32).toInt32) &&& (2147483647 : Int32)) % ((9 : Int32) - (Int32.ofNat A)))))])) _
      refine XS.istore X42.here hx rfl (hb hby at_100) rfl (l' := #[.val (.long q1), .second, .val (.int p2), .val (.ref b2), .val (.int (Int32.ofNat A)), .val (.int ((Int32.ofNat A) + ((((p2.toUInt32 >>> ((4 : Int32) &&& 31).toUInt32).toInt32) &&& (2147483647 : Int32)) % ((9 : Int32) - (Int32.ofNat A))))), .unset, .unset, .unset, .unset, .unset, .unset, .unset, .unset, .unset, .unset, .unset]) rfl ?_
      exact k)
  obtain ⟨bb, hbb⟩ : ∃ z : Int32, z = ((Int32.ofNat A) + ((((p2.toUInt32 >>> ((4 : Int32) &&& 31).toUInt32).toInt32) &&& (2147483647 : Int32)) % ((9 : Int32) - (Int32.ofNat A)))) := ⟨_, rfl⟩
  have J49 : ∀ t, Steps p.tables e below (T42.setTop (mkF m 102 #[.val (.long q1), .second, .val (.int p2), .val (.ref b2), .val (.int (Int32.ofNat A)), .val (.int bb), .unset, .unset, .unset, .unset, .unset, .unset, .unset, .unset, .unset, .unset, .unset] [])) t → Steps p.tables e below (s₁.setTop (entryFrame m #[(.long q1), (.int p2)] maxLocals)) t := fun t k => J48 t (by subst hbb; exact k)
  obtain ⟨B, hAB, hB, rfl⟩ := own_to _ bb hA hbb
  obtain ⟨E0, qE0⟩ : ∃ z : Nat, z = own_e ff A B 0 := ⟨_, rfl⟩
  have hE0 : E0 = B := qE0
  have J50 : ∀ t, Steps p.tables e below (T42.setTop (mkF m 106 #[.val (.long q1), .second, .val (.int p2), .val (.ref b2), .val (.int (Int32.ofNat A)), .val (.int (Int32.ofNat B)), .val (.int (Int32.ofNat B)), .unset, .unset, .unset, .unset, .unset, .unset, .unset, .unset, .unset, .unset] [])) t → Steps p.tables e below (s₁.setTop (entryFrame m #[(.long q1), (.int p2)] maxLocals)) t := fun t k => J49 t (by
      show Steps p.tables e below (T42.setTop (mkF m 102 #[.val (.long q1), .second, .val (.int p2), .val (.ref b2), .val (.int (Int32.ofNat A)), .val (.int (Int32.ofNat B)), .unset, .unset, .unset, .unset, .unset, .unset, .unset, .unset, .unset, .unset, .unset] [])) _
      refine XS.iload X42.here hx rfl (hb hby at_102) rfl ?_
      show Steps p.tables e below (T42.setTop (mkF m 104 #[.val (.long q1), .second, .val (.int p2), .val (.ref b2), .val (.int (Int32.ofNat A)), .val (.int (Int32.ofNat B)), .unset, .unset, .unset, .unset, .unset, .unset, .unset, .unset, .unset, .unset, .unset] [(.int (Int32.ofNat B))])) _
      refine XS.istore X42.here hx rfl (hb hby at_104) rfl (l' := #[.val (.long q1), .second, .val (.int p2), .val (.ref b2), .val (.int (Int32.ofNat A)), .val (.int (Int32.ofNat B)), .val (.int (Int32.ofNat B)), .unset, .unset, .unset, .unset, .unset, .unset, .unset, .unset, .unset, .unset]) rfl ?_
      exact k)
  have J51 : ∀ t, Steps p.tables e below (T42.setTop (mkF m 106 #[.val (.long q1), .second, .val (.int p2), .val (.ref b2), .val (.int (Int32.ofNat A)), .val (.int (Int32.ofNat B)), .val (.int (Int32.ofNat E0)), .unset, .unset, .unset, .unset, .unset, .unset, .unset, .unset, .unset, .unset] [])) t → Steps p.tables e below (s₁.setTop (entryFrame m #[(.long q1), (.int p2)] maxLocals)) t := fun t k => J50 t (by rw [hE0] at k; exact k)
  have J52 : ∀ t, Steps p.tables e below (T42.setTop (mkF m 113 #[.val (.long q1), .second, .val (.int p2), .val (.ref b2), .val (.int (Int32.ofNat A)), .val (.int (Int32.ofNat B)), .val (.int (Int32.ofNat E0)), .unset, .unset, .unset, .unset, .unset, .unset, .unset, .unset, .unset, .unset] [(.int (Int32.ofNat E0)), (.int (Int32.ofNat A)), (.int (7 : Int32)), (.ref b2)])) t → Steps p.tables e below (s₁.setTop (entryFrame m #[(.long q1), (.int p2)] maxLocals)) t := fun t k => J51 t (by
      show Steps p.tables e below (T42.setTop (mkF m 106 #[.val (.long q1), .second, .val (.int p2), .val (.ref b2), .val (.int (Int32.ofNat A)), .val (.int (Int32.ofNat B)), .val (.int (Int32.ofNat E0)), .unset, .unset, .unset, .unset, .unset, .unset, .unset, .unset, .unset, .unset] [])) _
      refine XS.aloadN X42.here hx rfl (hb hby at_106) rfl rfl ?_
      show Steps p.tables e below (T42.setTop (mkF m 107 #[.val (.long q1), .second, .val (.int p2), .val (.ref b2), .val (.int (Int32.ofNat A)), .val (.int (Int32.ofNat B)), .val (.int (Int32.ofNat E0)), .unset, .unset, .unset, .unset, .unset, .unset, .unset, .unset, .unset, .unset] [(.ref b2)])) _
      refine XS.bipush X42.here hx rfl (hb hby at_107) ?_
      show Steps p.tables e below (T42.setTop (mkF m 109 #[.val (.long q1), .second, .val (.int p2), .val (.ref b2), .val (.int (Int32.ofNat A)), .val (.int (Int32.ofNat B)), .val (.int (Int32.ofNat E0)), .unset, .unset, .unset, .unset, .unset, .unset, .unset, .unset, .unset, .unset] [(.int (7 : Int32)), (.ref b2)])) _
      refine XS.iload X42.here hx rfl (hb hby at_109) rfl ?_
      show Steps p.tables e below (T42.setTop (mkF m 111 #[.val (.long q1), .second, .val (.int p2), .val (.ref b2), .val (.int (Int32.ofNat A)), .val (.int (Int32.ofNat B)), .val (.int (Int32.ofNat E0)), .unset, .unset, .unset, .unset, .unset, .unset, .unset, .unset, .unset, .unset] [(.int (Int32.ofNat A)), (.int (7 : Int32)), (.ref b2)])) _
      refine XS.iload X42.here hx rfl (hb hby at_111) rfl ?_
      exact k)
  have J53 : ∀ t, Steps p.tables e below (T42.setTop (mkF m 113 #[.val (.long q1), .second, .val (.int p2), .val (.ref b2), .val (.int (Int32.ofNat A)), .val (.int (Int32.ofNat B)), .val (.int (Int32.ofNat E0)), .unset, .unset, .unset, .unset, .unset, .unset, .unset, .unset, .unset, .unset] [(.int (Int32.ofNat E0)), (.int (Int32.ofNat A)), (.int (Int32.ofNat 7)), (.ref b2)])) t → Steps p.tables e below (s₁.setTop (entryFrame m #[(.long q1), (.int p2)] maxLocals)) t := J52
  obtain ⟨_, _, ⟨T54, L54, k54, n54⟩, -, X54, ⟨Lc54, hQ54, l54, y54, z54⟩, st54⟩ := Jvm.LawKit.callS X42 hx (y := (⟨"com/example/wisteria/wisteria/value/TextValueCharacterCountBeforeNulPinLaw", "cut", "([BIII)I"⟩ : MethodName)) hown (mvT hZ (hw _ (List.mem_of_getElem? (i := 2) rfl))) (mvT hZ (hw _ (List.mem_of_getElem? (i := 3) rfl))) (mvT hZ (hw _ (List.mem_of_getElem? (i := 4) rfl))) (mvT hZ (hw _ (List.mem_of_getElem? (i := 5) rfl))) (by decide) (backOf (W := 0) (rm1 l Z a0 hw [] b2 cl42 ff 7 A E0 h42 n0 Z44 Aw42 L (by decide) hA (by rw [qE0]; exact own_e_le hB 0)) hZ (hw _ (List.mem_of_getElem? (i := 5) rfl)) (hw _ (List.mem_of_getElem? (i := 4) rfl)) (by decide) (by decide)) (g := (mkF m 113 #[.val (.long q1), .second, .val (.int p2), .val (.ref b2), .val (.int (Int32.ofNat A)), .val (.int (Int32.ofNat B)), .val (.int (Int32.ofNat E0)), .unset, .unset, .unset, .unset, .unset, .unset, .unset, .unset, .unset, .unset] [(.int (Int32.ofNat E0)), (.int (Int32.ofNat A)), (.int (Int32.ofNat 7)), (.ref b2)])) rfl (by rw [hml]; rfl) (argsL := [(.ref b2), (.int (Int32.ofNat 7)), (.int (Int32.ofNat A)), (.int (Int32.ofNat E0))]) (rest := []) (lenOf pd_3 rfl) rfl (by show 2 * 0 + _ ≤ _; exact Nat.le_of_eq rfl) (hb hby at_113) (fun _ _ => ⟨rfl, e42, (by decide : 1 + 0 ≤ _), (by decide : 8 + 0 ≤ _)⟩)
  dsimp only [Pt.U, Pt.locs, Pt.cells, Pt.slots] at X54 l54 y54 z54 st54 hQ54
  subst y54 z54
  obtain ⟨rfl, Nq54, e54⟩ := hQ54
  have N55 : Fr n0 L54 := by rw [l54]; exact Fr.app N45 Nq54
  have J56 : ∀ t, Steps p.tables e below (T54.setTop (mkF m 116 #[.val (.long q1), .second, .val (.int p2), .val (.ref b2), .val (.int (Int32.ofNat A)), .val (.int (Int32.ofNat B)), .val (.int (Int32.ofNat E0)), .unset, .unset, .unset, .unset, .unset, .unset, .unset, .unset, .unset, .unset] [(.int (Int32.ofNat (own_cut ff 7 A E0)))])) t → Steps p.tables e below (s₁.setTop (entryFrame m #[(.long q1), (.int p2)] maxLocals)) t := fun t k => J53 t (st54 t k)
  obtain ⟨E1, hE1⟩ : ∃ z : Nat, z = own_cut ff 7 A E0 := ⟨_, rfl⟩
  have qE1 : E1 = own_e ff A B 1 := by rw [hE1, qE0]; rfl
  have J57 : ∀ t, Steps p.tables e below (T54.setTop (mkF m 116 #[.val (.long q1), .second, .val (.int p2), .val (.ref b2), .val (.int (Int32.ofNat A)), .val (.int (Int32.ofNat B)), .val (.int (Int32.ofNat E0)), .unset, .unset, .unset, .unset, .unset, .unset, .unset, .unset, .unset, .unset] [(.int (Int32.ofNat E1))])) t → Steps p.tables e below (s₁.setTop (entryFrame m #[(.long q1), (.int p2)] maxLocals)) t := fun t k => J56 t (by rw [hE1] at k; exact k)
  have J58 : ∀ t, Steps p.tables e below (T54.setTop (mkF m 125 #[.val (.long q1), .second, .val (.int p2), .val (.ref b2), .val (.int (Int32.ofNat A)), .val (.int (Int32.ofNat B)), .val (.int (Int32.ofNat E1)), .unset, .unset, .unset, .unset, .unset, .unset, .unset, .unset, .unset, .unset] [(.int (Int32.ofNat E1)), (.int (Int32.ofNat A)), (.int (6 : Int32)), (.ref b2)])) t → Steps p.tables e below (s₁.setTop (entryFrame m #[(.long q1), (.int p2)] maxLocals)) t := fun t k => J57 t (by
      show Steps p.tables e below (T54.setTop (mkF m 116 #[.val (.long q1), .second, .val (.int p2), .val (.ref b2), .val (.int (Int32.ofNat A)), .val (.int (Int32.ofNat B)), .val (.int (Int32.ofNat E0)), .unset, .unset, .unset, .unset, .unset, .unset, .unset, .unset, .unset, .unset] [(.int (Int32.ofNat E1))])) _
      refine XS.istore X54.here hx rfl (hb hby at_116) rfl (l' := #[.val (.long q1), .second, .val (.int p2), .val (.ref b2), .val (.int (Int32.ofNat A)), .val (.int (Int32.ofNat B)), .val (.int (Int32.ofNat E1)), .unset, .unset, .unset, .unset, .unset, .unset, .unset, .unset, .unset, .unset]) rfl ?_
      show Steps p.tables e below (T54.setTop (mkF m 118 #[.val (.long q1), .second, .val (.int p2), .val (.ref b2), .val (.int (Int32.ofNat A)), .val (.int (Int32.ofNat B)), .val (.int (Int32.ofNat E1)), .unset, .unset, .unset, .unset, .unset, .unset, .unset, .unset, .unset, .unset] [])) _
      refine XS.aloadN X54.here hx rfl (hb hby at_118) rfl rfl ?_
      show Steps p.tables e below (T54.setTop (mkF m 119 #[.val (.long q1), .second, .val (.int p2), .val (.ref b2), .val (.int (Int32.ofNat A)), .val (.int (Int32.ofNat B)), .val (.int (Int32.ofNat E1)), .unset, .unset, .unset, .unset, .unset, .unset, .unset, .unset, .unset, .unset] [(.ref b2)])) _
      refine XS.bipush X54.here hx rfl (hb hby at_119) ?_
      show Steps p.tables e below (T54.setTop (mkF m 121 #[.val (.long q1), .second, .val (.int p2), .val (.ref b2), .val (.int (Int32.ofNat A)), .val (.int (Int32.ofNat B)), .val (.int (Int32.ofNat E1)), .unset, .unset, .unset, .unset, .unset, .unset, .unset, .unset, .unset, .unset] [(.int (6 : Int32)), (.ref b2)])) _
      refine XS.iload X54.here hx rfl (hb hby at_121) rfl ?_
      show Steps p.tables e below (T54.setTop (mkF m 123 #[.val (.long q1), .second, .val (.int p2), .val (.ref b2), .val (.int (Int32.ofNat A)), .val (.int (Int32.ofNat B)), .val (.int (Int32.ofNat E1)), .unset, .unset, .unset, .unset, .unset, .unset, .unset, .unset, .unset, .unset] [(.int (Int32.ofNat A)), (.int (6 : Int32)), (.ref b2)])) _
      refine XS.iload X54.here hx rfl (hb hby at_123) rfl ?_
      exact k)
  have J59 : ∀ t, Steps p.tables e below (T54.setTop (mkF m 125 #[.val (.long q1), .second, .val (.int p2), .val (.ref b2), .val (.int (Int32.ofNat A)), .val (.int (Int32.ofNat B)), .val (.int (Int32.ofNat E1)), .unset, .unset, .unset, .unset, .unset, .unset, .unset, .unset, .unset, .unset] [(.int (Int32.ofNat E1)), (.int (Int32.ofNat A)), (.int (Int32.ofNat 6)), (.ref b2)])) t → Steps p.tables e below (s₁.setTop (entryFrame m #[(.long q1), (.int p2)] maxLocals)) t := J58
  obtain ⟨_, _, ⟨T60, L60, k60, n60⟩, -, X60, ⟨Lc60, hQ60, l60, y60, z60⟩, st60⟩ := Jvm.LawKit.callS X54 hx (y := (⟨"com/example/wisteria/wisteria/value/TextValueCharacterCountBeforeNulPinLaw", "cut", "([BIII)I"⟩ : MethodName)) hown (mvT hZ (hw _ (List.mem_of_getElem? (i := 2) rfl))) (mvT hZ (hw _ (List.mem_of_getElem? (i := 3) rfl))) (mvT hZ (hw _ (List.mem_of_getElem? (i := 4) rfl))) (mvT hZ (hw _ (List.mem_of_getElem? (i := 5) rfl))) (by decide) (backOf (W := 0) (rm1 l Z a0 hw [] b2 cl42 ff 6 A E1 h42 n0 Z44 Aw42 L (by decide) hA (by rw [qE1]; exact own_e_le hB 1)) hZ (hw _ (List.mem_of_getElem? (i := 5) rfl)) (hw _ (List.mem_of_getElem? (i := 4) rfl)) (by decide) (by decide)) (g := (mkF m 125 #[.val (.long q1), .second, .val (.int p2), .val (.ref b2), .val (.int (Int32.ofNat A)), .val (.int (Int32.ofNat B)), .val (.int (Int32.ofNat E1)), .unset, .unset, .unset, .unset, .unset, .unset, .unset, .unset, .unset, .unset] [(.int (Int32.ofNat E1)), (.int (Int32.ofNat A)), (.int (Int32.ofNat 6)), (.ref b2)])) rfl (by rw [hml]; rfl) (argsL := [(.ref b2), (.int (Int32.ofNat 6)), (.int (Int32.ofNat A)), (.int (Int32.ofNat E1))]) (rest := []) (lenOf pd_3 rfl) rfl (by show 2 * 0 + _ ≤ _; exact Nat.le_of_eq rfl) (hb hby at_125) (fun _ _ => ⟨rfl, e54, (by decide : 1 + 0 ≤ _), (by decide : 8 + 0 ≤ _)⟩)
  dsimp only [Pt.U, Pt.locs, Pt.cells, Pt.slots] at X60 l60 y60 z60 st60 hQ60
  subst y60 z60
  obtain ⟨rfl, Nq60, e60⟩ := hQ60
  have N61 : Fr n0 L60 := by rw [l60]; exact Fr.app N55 Nq60
  have J62 : ∀ t, Steps p.tables e below (T60.setTop (mkF m 128 #[.val (.long q1), .second, .val (.int p2), .val (.ref b2), .val (.int (Int32.ofNat A)), .val (.int (Int32.ofNat B)), .val (.int (Int32.ofNat E1)), .unset, .unset, .unset, .unset, .unset, .unset, .unset, .unset, .unset, .unset] [(.int (Int32.ofNat (own_cut ff 6 A E1)))])) t → Steps p.tables e below (s₁.setTop (entryFrame m #[(.long q1), (.int p2)] maxLocals)) t := fun t k => J59 t (st60 t k)
  obtain ⟨E2, hE2⟩ : ∃ z : Nat, z = own_cut ff 6 A E1 := ⟨_, rfl⟩
  have qE2 : E2 = own_e ff A B 2 := by rw [hE2, qE1]; rfl
  have J63 : ∀ t, Steps p.tables e below (T60.setTop (mkF m 128 #[.val (.long q1), .second, .val (.int p2), .val (.ref b2), .val (.int (Int32.ofNat A)), .val (.int (Int32.ofNat B)), .val (.int (Int32.ofNat E1)), .unset, .unset, .unset, .unset, .unset, .unset, .unset, .unset, .unset, .unset] [(.int (Int32.ofNat E2))])) t → Steps p.tables e below (s₁.setTop (entryFrame m #[(.long q1), (.int p2)] maxLocals)) t := fun t k => J62 t (by rw [hE2] at k; exact k)
  have J64 : ∀ t, Steps p.tables e below (T60.setTop (mkF m 136 #[.val (.long q1), .second, .val (.int p2), .val (.ref b2), .val (.int (Int32.ofNat A)), .val (.int (Int32.ofNat B)), .val (.int (Int32.ofNat E2)), .unset, .unset, .unset, .unset, .unset, .unset, .unset, .unset, .unset, .unset] [(.int (Int32.ofNat E2)), (.int (Int32.ofNat A)), (.int (5 : Int32)), (.ref b2)])) t → Steps p.tables e below (s₁.setTop (entryFrame m #[(.long q1), (.int p2)] maxLocals)) t := fun t k => J63 t (by
      show Steps p.tables e below (T60.setTop (mkF m 128 #[.val (.long q1), .second, .val (.int p2), .val (.ref b2), .val (.int (Int32.ofNat A)), .val (.int (Int32.ofNat B)), .val (.int (Int32.ofNat E1)), .unset, .unset, .unset, .unset, .unset, .unset, .unset, .unset, .unset, .unset] [(.int (Int32.ofNat E2))])) _
      refine XS.istore X60.here hx rfl (hb hby at_128) rfl (l' := #[.val (.long q1), .second, .val (.int p2), .val (.ref b2), .val (.int (Int32.ofNat A)), .val (.int (Int32.ofNat B)), .val (.int (Int32.ofNat E2)), .unset, .unset, .unset, .unset, .unset, .unset, .unset, .unset, .unset, .unset]) rfl ?_
      show Steps p.tables e below (T60.setTop (mkF m 130 #[.val (.long q1), .second, .val (.int p2), .val (.ref b2), .val (.int (Int32.ofNat A)), .val (.int (Int32.ofNat B)), .val (.int (Int32.ofNat E2)), .unset, .unset, .unset, .unset, .unset, .unset, .unset, .unset, .unset, .unset] [])) _
      refine XS.aloadN X60.here hx rfl (hb hby at_130) rfl rfl ?_
      show Steps p.tables e below (T60.setTop (mkF m 131 #[.val (.long q1), .second, .val (.int p2), .val (.ref b2), .val (.int (Int32.ofNat A)), .val (.int (Int32.ofNat B)), .val (.int (Int32.ofNat E2)), .unset, .unset, .unset, .unset, .unset, .unset, .unset, .unset, .unset, .unset] [(.ref b2)])) _
      refine XS.iconst X60.here hx rfl (hb hby at_131) ?_
      show Steps p.tables e below (T60.setTop (mkF m 132 #[.val (.long q1), .second, .val (.int p2), .val (.ref b2), .val (.int (Int32.ofNat A)), .val (.int (Int32.ofNat B)), .val (.int (Int32.ofNat E2)), .unset, .unset, .unset, .unset, .unset, .unset, .unset, .unset, .unset, .unset] [(.int (5 : Int32)), (.ref b2)])) _
      refine XS.iload X60.here hx rfl (hb hby at_132) rfl ?_
      show Steps p.tables e below (T60.setTop (mkF m 134 #[.val (.long q1), .second, .val (.int p2), .val (.ref b2), .val (.int (Int32.ofNat A)), .val (.int (Int32.ofNat B)), .val (.int (Int32.ofNat E2)), .unset, .unset, .unset, .unset, .unset, .unset, .unset, .unset, .unset, .unset] [(.int (Int32.ofNat A)), (.int (5 : Int32)), (.ref b2)])) _
      refine XS.iload X60.here hx rfl (hb hby at_134) rfl ?_
      exact k)
  have J65 : ∀ t, Steps p.tables e below (T60.setTop (mkF m 136 #[.val (.long q1), .second, .val (.int p2), .val (.ref b2), .val (.int (Int32.ofNat A)), .val (.int (Int32.ofNat B)), .val (.int (Int32.ofNat E2)), .unset, .unset, .unset, .unset, .unset, .unset, .unset, .unset, .unset, .unset] [(.int (Int32.ofNat E2)), (.int (Int32.ofNat A)), (.int (Int32.ofNat 5)), (.ref b2)])) t → Steps p.tables e below (s₁.setTop (entryFrame m #[(.long q1), (.int p2)] maxLocals)) t := J64
  obtain ⟨_, _, ⟨T66, L66, k66, n66⟩, -, X66, ⟨Lc66, hQ66, l66, y66, z66⟩, st66⟩ := Jvm.LawKit.callS X60 hx (y := (⟨"com/example/wisteria/wisteria/value/TextValueCharacterCountBeforeNulPinLaw", "cut", "([BIII)I"⟩ : MethodName)) hown (mvT hZ (hw _ (List.mem_of_getElem? (i := 2) rfl))) (mvT hZ (hw _ (List.mem_of_getElem? (i := 3) rfl))) (mvT hZ (hw _ (List.mem_of_getElem? (i := 4) rfl))) (mvT hZ (hw _ (List.mem_of_getElem? (i := 5) rfl))) (by decide) (backOf (W := 0) (rm1 l Z a0 hw [] b2 cl42 ff 5 A E2 h42 n0 Z44 Aw42 L (by decide) hA (by rw [qE2]; exact own_e_le hB 2)) hZ (hw _ (List.mem_of_getElem? (i := 5) rfl)) (hw _ (List.mem_of_getElem? (i := 4) rfl)) (by decide) (by decide)) (g := (mkF m 136 #[.val (.long q1), .second, .val (.int p2), .val (.ref b2), .val (.int (Int32.ofNat A)), .val (.int (Int32.ofNat B)), .val (.int (Int32.ofNat E2)), .unset, .unset, .unset, .unset, .unset, .unset, .unset, .unset, .unset, .unset] [(.int (Int32.ofNat E2)), (.int (Int32.ofNat A)), (.int (Int32.ofNat 5)), (.ref b2)])) rfl (by rw [hml]; rfl) (argsL := [(.ref b2), (.int (Int32.ofNat 5)), (.int (Int32.ofNat A)), (.int (Int32.ofNat E2))]) (rest := []) (lenOf pd_3 rfl) rfl (by show 2 * 0 + _ ≤ _; exact Nat.le_of_eq rfl) (hb hby at_136) (fun _ _ => ⟨rfl, e60, (by decide : 1 + 0 ≤ _), (by decide : 8 + 0 ≤ _)⟩)
  dsimp only [Pt.U, Pt.locs, Pt.cells, Pt.slots] at X66 l66 y66 z66 st66 hQ66
  subst y66 z66
  obtain ⟨rfl, Nq66, e66⟩ := hQ66
  have N67 : Fr n0 L66 := by rw [l66]; exact Fr.app N61 Nq66
  have J68 : ∀ t, Steps p.tables e below (T66.setTop (mkF m 139 #[.val (.long q1), .second, .val (.int p2), .val (.ref b2), .val (.int (Int32.ofNat A)), .val (.int (Int32.ofNat B)), .val (.int (Int32.ofNat E2)), .unset, .unset, .unset, .unset, .unset, .unset, .unset, .unset, .unset, .unset] [(.int (Int32.ofNat (own_cut ff 5 A E2)))])) t → Steps p.tables e below (s₁.setTop (entryFrame m #[(.long q1), (.int p2)] maxLocals)) t := fun t k => J65 t (st66 t k)
  obtain ⟨E3, hE3⟩ : ∃ z : Nat, z = own_cut ff 5 A E2 := ⟨_, rfl⟩
  have qE3 : E3 = own_e ff A B 3 := by rw [hE3, qE2]; rfl
  have J69 : ∀ t, Steps p.tables e below (T66.setTop (mkF m 139 #[.val (.long q1), .second, .val (.int p2), .val (.ref b2), .val (.int (Int32.ofNat A)), .val (.int (Int32.ofNat B)), .val (.int (Int32.ofNat E2)), .unset, .unset, .unset, .unset, .unset, .unset, .unset, .unset, .unset, .unset] [(.int (Int32.ofNat E3))])) t → Steps p.tables e below (s₁.setTop (entryFrame m #[(.long q1), (.int p2)] maxLocals)) t := fun t k => J68 t (by rw [hE3] at k; exact k)
  have J70 : ∀ t, Steps p.tables e below (T66.setTop (mkF m 147 #[.val (.long q1), .second, .val (.int p2), .val (.ref b2), .val (.int (Int32.ofNat A)), .val (.int (Int32.ofNat B)), .val (.int (Int32.ofNat E3)), .unset, .unset, .unset, .unset, .unset, .unset, .unset, .unset, .unset, .unset] [(.int (Int32.ofNat E3)), (.int (Int32.ofNat A)), (.int (4 : Int32)), (.ref b2)])) t → Steps p.tables e below (s₁.setTop (entryFrame m #[(.long q1), (.int p2)] maxLocals)) t := fun t k => J69 t (by
      show Steps p.tables e below (T66.setTop (mkF m 139 #[.val (.long q1), .second, .val (.int p2), .val (.ref b2), .val (.int (Int32.ofNat A)), .val (.int (Int32.ofNat B)), .val (.int (Int32.ofNat E2)), .unset, .unset, .unset, .unset, .unset, .unset, .unset, .unset, .unset, .unset] [(.int (Int32.ofNat E3))])) _
      refine XS.istore X66.here hx rfl (hb hby at_139) rfl (l' := #[.val (.long q1), .second, .val (.int p2), .val (.ref b2), .val (.int (Int32.ofNat A)), .val (.int (Int32.ofNat B)), .val (.int (Int32.ofNat E3)), .unset, .unset, .unset, .unset, .unset, .unset, .unset, .unset, .unset, .unset]) rfl ?_
      show Steps p.tables e below (T66.setTop (mkF m 141 #[.val (.long q1), .second, .val (.int p2), .val (.ref b2), .val (.int (Int32.ofNat A)), .val (.int (Int32.ofNat B)), .val (.int (Int32.ofNat E3)), .unset, .unset, .unset, .unset, .unset, .unset, .unset, .unset, .unset, .unset] [])) _
      refine XS.aloadN X66.here hx rfl (hb hby at_141) rfl rfl ?_
      show Steps p.tables e below (T66.setTop (mkF m 142 #[.val (.long q1), .second, .val (.int p2), .val (.ref b2), .val (.int (Int32.ofNat A)), .val (.int (Int32.ofNat B)), .val (.int (Int32.ofNat E3)), .unset, .unset, .unset, .unset, .unset, .unset, .unset, .unset, .unset, .unset] [(.ref b2)])) _
      refine XS.iconst X66.here hx rfl (hb hby at_142) ?_
      show Steps p.tables e below (T66.setTop (mkF m 143 #[.val (.long q1), .second, .val (.int p2), .val (.ref b2), .val (.int (Int32.ofNat A)), .val (.int (Int32.ofNat B)), .val (.int (Int32.ofNat E3)), .unset, .unset, .unset, .unset, .unset, .unset, .unset, .unset, .unset, .unset] [(.int (4 : Int32)), (.ref b2)])) _
      refine XS.iload X66.here hx rfl (hb hby at_143) rfl ?_
      show Steps p.tables e below (T66.setTop (mkF m 145 #[.val (.long q1), .second, .val (.int p2), .val (.ref b2), .val (.int (Int32.ofNat A)), .val (.int (Int32.ofNat B)), .val (.int (Int32.ofNat E3)), .unset, .unset, .unset, .unset, .unset, .unset, .unset, .unset, .unset, .unset] [(.int (Int32.ofNat A)), (.int (4 : Int32)), (.ref b2)])) _
      refine XS.iload X66.here hx rfl (hb hby at_145) rfl ?_
      exact k)
  have J71 : ∀ t, Steps p.tables e below (T66.setTop (mkF m 147 #[.val (.long q1), .second, .val (.int p2), .val (.ref b2), .val (.int (Int32.ofNat A)), .val (.int (Int32.ofNat B)), .val (.int (Int32.ofNat E3)), .unset, .unset, .unset, .unset, .unset, .unset, .unset, .unset, .unset, .unset] [(.int (Int32.ofNat E3)), (.int (Int32.ofNat A)), (.int (Int32.ofNat 4)), (.ref b2)])) t → Steps p.tables e below (s₁.setTop (entryFrame m #[(.long q1), (.int p2)] maxLocals)) t := J70
  obtain ⟨_, _, ⟨T72, L72, k72, n72⟩, -, X72, ⟨Lc72, hQ72, l72, y72, z72⟩, st72⟩ := Jvm.LawKit.callS X66 hx (y := (⟨"com/example/wisteria/wisteria/value/TextValueCharacterCountBeforeNulPinLaw", "cut", "([BIII)I"⟩ : MethodName)) hown (mvT hZ (hw _ (List.mem_of_getElem? (i := 2) rfl))) (mvT hZ (hw _ (List.mem_of_getElem? (i := 3) rfl))) (mvT hZ (hw _ (List.mem_of_getElem? (i := 4) rfl))) (mvT hZ (hw _ (List.mem_of_getElem? (i := 5) rfl))) (by decide) (backOf (W := 0) (rm1 l Z a0 hw [] b2 cl42 ff 4 A E3 h42 n0 Z44 Aw42 L (by decide) hA (by rw [qE3]; exact own_e_le hB 3)) hZ (hw _ (List.mem_of_getElem? (i := 5) rfl)) (hw _ (List.mem_of_getElem? (i := 4) rfl)) (by decide) (by decide)) (g := (mkF m 147 #[.val (.long q1), .second, .val (.int p2), .val (.ref b2), .val (.int (Int32.ofNat A)), .val (.int (Int32.ofNat B)), .val (.int (Int32.ofNat E3)), .unset, .unset, .unset, .unset, .unset, .unset, .unset, .unset, .unset, .unset] [(.int (Int32.ofNat E3)), (.int (Int32.ofNat A)), (.int (Int32.ofNat 4)), (.ref b2)])) rfl (by rw [hml]; rfl) (argsL := [(.ref b2), (.int (Int32.ofNat 4)), (.int (Int32.ofNat A)), (.int (Int32.ofNat E3))]) (rest := []) (lenOf pd_3 rfl) rfl (by show 2 * 0 + _ ≤ _; exact Nat.le_of_eq rfl) (hb hby at_147) (fun _ _ => ⟨rfl, e66, (by decide : 1 + 0 ≤ _), (by decide : 8 + 0 ≤ _)⟩)
  dsimp only [Pt.U, Pt.locs, Pt.cells, Pt.slots] at X72 l72 y72 z72 st72 hQ72
  subst y72 z72
  obtain ⟨rfl, Nq72, e72⟩ := hQ72
  have N73 : Fr n0 L72 := by rw [l72]; exact Fr.app N67 Nq72
  have J74 : ∀ t, Steps p.tables e below (T72.setTop (mkF m 150 #[.val (.long q1), .second, .val (.int p2), .val (.ref b2), .val (.int (Int32.ofNat A)), .val (.int (Int32.ofNat B)), .val (.int (Int32.ofNat E3)), .unset, .unset, .unset, .unset, .unset, .unset, .unset, .unset, .unset, .unset] [(.int (Int32.ofNat (own_cut ff 4 A E3)))])) t → Steps p.tables e below (s₁.setTop (entryFrame m #[(.long q1), (.int p2)] maxLocals)) t := fun t k => J71 t (st72 t k)
  obtain ⟨E4, hE4⟩ : ∃ z : Nat, z = own_cut ff 4 A E3 := ⟨_, rfl⟩
  have qE4 : E4 = own_e ff A B 4 := by rw [hE4, qE3]; rfl
  have J75 : ∀ t, Steps p.tables e below (T72.setTop (mkF m 150 #[.val (.long q1), .second, .val (.int p2), .val (.ref b2), .val (.int (Int32.ofNat A)), .val (.int (Int32.ofNat B)), .val (.int (Int32.ofNat E3)), .unset, .unset, .unset, .unset, .unset, .unset, .unset, .unset, .unset, .unset] [(.int (Int32.ofNat E4))])) t → Steps p.tables e below (s₁.setTop (entryFrame m #[(.long q1), (.int p2)] maxLocals)) t := fun t k => J74 t (by rw [hE4] at k; exact k)
  have J76 : ∀ t, Steps p.tables e below (T72.setTop (mkF m 158 #[.val (.long q1), .second, .val (.int p2), .val (.ref b2), .val (.int (Int32.ofNat A)), .val (.int (Int32.ofNat B)), .val (.int (Int32.ofNat E4)), .unset, .unset, .unset, .unset, .unset, .unset, .unset, .unset, .unset, .unset] [(.int (Int32.ofNat E4)), (.int (Int32.ofNat A)), (.int (3 : Int32)), (.ref b2)])) t → Steps p.tables e below (s₁.setTop (entryFrame m #[(.long q1), (.int p2)] maxLocals)) t := fun t k => J75 t (by
      show Steps p.tables e below (T72.setTop (mkF m 150 #[.val (.long q1), .second, .val (.int p2), .val (.ref b2), .val (.int (Int32.ofNat A)), .val (.int (Int32.ofNat B)), .val (.int (Int32.ofNat E3)), .unset, .unset, .unset, .unset, .unset, .unset, .unset, .unset, .unset, .unset] [(.int (Int32.ofNat E4))])) _
      refine XS.istore X72.here hx rfl (hb hby at_150) rfl (l' := #[.val (.long q1), .second, .val (.int p2), .val (.ref b2), .val (.int (Int32.ofNat A)), .val (.int (Int32.ofNat B)), .val (.int (Int32.ofNat E4)), .unset, .unset, .unset, .unset, .unset, .unset, .unset, .unset, .unset, .unset]) rfl ?_
      show Steps p.tables e below (T72.setTop (mkF m 152 #[.val (.long q1), .second, .val (.int p2), .val (.ref b2), .val (.int (Int32.ofNat A)), .val (.int (Int32.ofNat B)), .val (.int (Int32.ofNat E4)), .unset, .unset, .unset, .unset, .unset, .unset, .unset, .unset, .unset, .unset] [])) _
      refine XS.aloadN X72.here hx rfl (hb hby at_152) rfl rfl ?_
      show Steps p.tables e below (T72.setTop (mkF m 153 #[.val (.long q1), .second, .val (.int p2), .val (.ref b2), .val (.int (Int32.ofNat A)), .val (.int (Int32.ofNat B)), .val (.int (Int32.ofNat E4)), .unset, .unset, .unset, .unset, .unset, .unset, .unset, .unset, .unset, .unset] [(.ref b2)])) _
      refine XS.iconst X72.here hx rfl (hb hby at_153) ?_
      show Steps p.tables e below (T72.setTop (mkF m 154 #[.val (.long q1), .second, .val (.int p2), .val (.ref b2), .val (.int (Int32.ofNat A)), .val (.int (Int32.ofNat B)), .val (.int (Int32.ofNat E4)), .unset, .unset, .unset, .unset, .unset, .unset, .unset, .unset, .unset, .unset] [(.int (3 : Int32)), (.ref b2)])) _
      refine XS.iload X72.here hx rfl (hb hby at_154) rfl ?_
      show Steps p.tables e below (T72.setTop (mkF m 156 #[.val (.long q1), .second, .val (.int p2), .val (.ref b2), .val (.int (Int32.ofNat A)), .val (.int (Int32.ofNat B)), .val (.int (Int32.ofNat E4)), .unset, .unset, .unset, .unset, .unset, .unset, .unset, .unset, .unset, .unset] [(.int (Int32.ofNat A)), (.int (3 : Int32)), (.ref b2)])) _
      refine XS.iload X72.here hx rfl (hb hby at_156) rfl ?_
      exact k)
  have J77 : ∀ t, Steps p.tables e below (T72.setTop (mkF m 158 #[.val (.long q1), .second, .val (.int p2), .val (.ref b2), .val (.int (Int32.ofNat A)), .val (.int (Int32.ofNat B)), .val (.int (Int32.ofNat E4)), .unset, .unset, .unset, .unset, .unset, .unset, .unset, .unset, .unset, .unset] [(.int (Int32.ofNat E4)), (.int (Int32.ofNat A)), (.int (Int32.ofNat 3)), (.ref b2)])) t → Steps p.tables e below (s₁.setTop (entryFrame m #[(.long q1), (.int p2)] maxLocals)) t := J76
  obtain ⟨_, _, ⟨T78, L78, k78, n78⟩, -, X78, ⟨Lc78, hQ78, l78, y78, z78⟩, st78⟩ := Jvm.LawKit.callS X72 hx (y := (⟨"com/example/wisteria/wisteria/value/TextValueCharacterCountBeforeNulPinLaw", "cut", "([BIII)I"⟩ : MethodName)) hown (mvT hZ (hw _ (List.mem_of_getElem? (i := 2) rfl))) (mvT hZ (hw _ (List.mem_of_getElem? (i := 3) rfl))) (mvT hZ (hw _ (List.mem_of_getElem? (i := 4) rfl))) (mvT hZ (hw _ (List.mem_of_getElem? (i := 5) rfl))) (by decide) (backOf (W := 0) (rm1 l Z a0 hw [] b2 cl42 ff 3 A E4 h42 n0 Z44 Aw42 L (by decide) hA (by rw [qE4]; exact own_e_le hB 4)) hZ (hw _ (List.mem_of_getElem? (i := 5) rfl)) (hw _ (List.mem_of_getElem? (i := 4) rfl)) (by decide) (by decide)) (g := (mkF m 158 #[.val (.long q1), .second, .val (.int p2), .val (.ref b2), .val (.int (Int32.ofNat A)), .val (.int (Int32.ofNat B)), .val (.int (Int32.ofNat E4)), .unset, .unset, .unset, .unset, .unset, .unset, .unset, .unset, .unset, .unset] [(.int (Int32.ofNat E4)), (.int (Int32.ofNat A)), (.int (Int32.ofNat 3)), (.ref b2)])) rfl (by rw [hml]; rfl) (argsL := [(.ref b2), (.int (Int32.ofNat 3)), (.int (Int32.ofNat A)), (.int (Int32.ofNat E4))]) (rest := []) (lenOf pd_3 rfl) rfl (by show 2 * 0 + _ ≤ _; exact Nat.le_of_eq rfl) (hb hby at_158) (fun _ _ => ⟨rfl, e72, (by decide : 1 + 0 ≤ _), (by decide : 8 + 0 ≤ _)⟩)
  dsimp only [Pt.U, Pt.locs, Pt.cells, Pt.slots] at X78 l78 y78 z78 st78 hQ78
  subst y78 z78
  obtain ⟨rfl, Nq78, e78⟩ := hQ78
  have N79 : Fr n0 L78 := by rw [l78]; exact Fr.app N73 Nq78
  have J80 : ∀ t, Steps p.tables e below (T78.setTop (mkF m 161 #[.val (.long q1), .second, .val (.int p2), .val (.ref b2), .val (.int (Int32.ofNat A)), .val (.int (Int32.ofNat B)), .val (.int (Int32.ofNat E4)), .unset, .unset, .unset, .unset, .unset, .unset, .unset, .unset, .unset, .unset] [(.int (Int32.ofNat (own_cut ff 3 A E4)))])) t → Steps p.tables e below (s₁.setTop (entryFrame m #[(.long q1), (.int p2)] maxLocals)) t := fun t k => J77 t (st78 t k)
  obtain ⟨E5, hE5⟩ : ∃ z : Nat, z = own_cut ff 3 A E4 := ⟨_, rfl⟩
  have qE5 : E5 = own_e ff A B 5 := by rw [hE5, qE4]; rfl
  have J81 : ∀ t, Steps p.tables e below (T78.setTop (mkF m 161 #[.val (.long q1), .second, .val (.int p2), .val (.ref b2), .val (.int (Int32.ofNat A)), .val (.int (Int32.ofNat B)), .val (.int (Int32.ofNat E4)), .unset, .unset, .unset, .unset, .unset, .unset, .unset, .unset, .unset, .unset] [(.int (Int32.ofNat E5))])) t → Steps p.tables e below (s₁.setTop (entryFrame m #[(.long q1), (.int p2)] maxLocals)) t := fun t k => J80 t (by rw [hE5] at k; exact k)
  have J82 : ∀ t, Steps p.tables e below (T78.setTop (mkF m 169 #[.val (.long q1), .second, .val (.int p2), .val (.ref b2), .val (.int (Int32.ofNat A)), .val (.int (Int32.ofNat B)), .val (.int (Int32.ofNat E5)), .unset, .unset, .unset, .unset, .unset, .unset, .unset, .unset, .unset, .unset] [(.int (Int32.ofNat E5)), (.int (Int32.ofNat A)), (.int (2 : Int32)), (.ref b2)])) t → Steps p.tables e below (s₁.setTop (entryFrame m #[(.long q1), (.int p2)] maxLocals)) t := fun t k => J81 t (by
      show Steps p.tables e below (T78.setTop (mkF m 161 #[.val (.long q1), .second, .val (.int p2), .val (.ref b2), .val (.int (Int32.ofNat A)), .val (.int (Int32.ofNat B)), .val (.int (Int32.ofNat E4)), .unset, .unset, .unset, .unset, .unset, .unset, .unset, .unset, .unset, .unset] [(.int (Int32.ofNat E5))])) _
      refine XS.istore X78.here hx rfl (hb hby at_161) rfl (l' := #[.val (.long q1), .second, .val (.int p2), .val (.ref b2), .val (.int (Int32.ofNat A)), .val (.int (Int32.ofNat B)), .val (.int (Int32.ofNat E5)), .unset, .unset, .unset, .unset, .unset, .unset, .unset, .unset, .unset, .unset]) rfl ?_
      show Steps p.tables e below (T78.setTop (mkF m 163 #[.val (.long q1), .second, .val (.int p2), .val (.ref b2), .val (.int (Int32.ofNat A)), .val (.int (Int32.ofNat B)), .val (.int (Int32.ofNat E5)), .unset, .unset, .unset, .unset, .unset, .unset, .unset, .unset, .unset, .unset] [])) _
      refine XS.aloadN X78.here hx rfl (hb hby at_163) rfl rfl ?_
      show Steps p.tables e below (T78.setTop (mkF m 164 #[.val (.long q1), .second, .val (.int p2), .val (.ref b2), .val (.int (Int32.ofNat A)), .val (.int (Int32.ofNat B)), .val (.int (Int32.ofNat E5)), .unset, .unset, .unset, .unset, .unset, .unset, .unset, .unset, .unset, .unset] [(.ref b2)])) _
      refine XS.iconst X78.here hx rfl (hb hby at_164) ?_
      show Steps p.tables e below (T78.setTop (mkF m 165 #[.val (.long q1), .second, .val (.int p2), .val (.ref b2), .val (.int (Int32.ofNat A)), .val (.int (Int32.ofNat B)), .val (.int (Int32.ofNat E5)), .unset, .unset, .unset, .unset, .unset, .unset, .unset, .unset, .unset, .unset] [(.int (2 : Int32)), (.ref b2)])) _
      refine XS.iload X78.here hx rfl (hb hby at_165) rfl ?_
      show Steps p.tables e below (T78.setTop (mkF m 167 #[.val (.long q1), .second, .val (.int p2), .val (.ref b2), .val (.int (Int32.ofNat A)), .val (.int (Int32.ofNat B)), .val (.int (Int32.ofNat E5)), .unset, .unset, .unset, .unset, .unset, .unset, .unset, .unset, .unset, .unset] [(.int (Int32.ofNat A)), (.int (2 : Int32)), (.ref b2)])) _
      refine XS.iload X78.here hx rfl (hb hby at_167) rfl ?_
      exact k)
  have J83 : ∀ t, Steps p.tables e below (T78.setTop (mkF m 169 #[.val (.long q1), .second, .val (.int p2), .val (.ref b2), .val (.int (Int32.ofNat A)), .val (.int (Int32.ofNat B)), .val (.int (Int32.ofNat E5)), .unset, .unset, .unset, .unset, .unset, .unset, .unset, .unset, .unset, .unset] [(.int (Int32.ofNat E5)), (.int (Int32.ofNat A)), (.int (Int32.ofNat 2)), (.ref b2)])) t → Steps p.tables e below (s₁.setTop (entryFrame m #[(.long q1), (.int p2)] maxLocals)) t := J82
  obtain ⟨_, _, ⟨T84, L84, k84, n84⟩, -, X84, ⟨Lc84, hQ84, l84, y84, z84⟩, st84⟩ := Jvm.LawKit.callS X78 hx (y := (⟨"com/example/wisteria/wisteria/value/TextValueCharacterCountBeforeNulPinLaw", "cut", "([BIII)I"⟩ : MethodName)) hown (mvT hZ (hw _ (List.mem_of_getElem? (i := 2) rfl))) (mvT hZ (hw _ (List.mem_of_getElem? (i := 3) rfl))) (mvT hZ (hw _ (List.mem_of_getElem? (i := 4) rfl))) (mvT hZ (hw _ (List.mem_of_getElem? (i := 5) rfl))) (by decide) (backOf (W := 0) (rm1 l Z a0 hw [] b2 cl42 ff 2 A E5 h42 n0 Z44 Aw42 L (by decide) hA (by rw [qE5]; exact own_e_le hB 5)) hZ (hw _ (List.mem_of_getElem? (i := 5) rfl)) (hw _ (List.mem_of_getElem? (i := 4) rfl)) (by decide) (by decide)) (g := (mkF m 169 #[.val (.long q1), .second, .val (.int p2), .val (.ref b2), .val (.int (Int32.ofNat A)), .val (.int (Int32.ofNat B)), .val (.int (Int32.ofNat E5)), .unset, .unset, .unset, .unset, .unset, .unset, .unset, .unset, .unset, .unset] [(.int (Int32.ofNat E5)), (.int (Int32.ofNat A)), (.int (Int32.ofNat 2)), (.ref b2)])) rfl (by rw [hml]; rfl) (argsL := [(.ref b2), (.int (Int32.ofNat 2)), (.int (Int32.ofNat A)), (.int (Int32.ofNat E5))]) (rest := []) (lenOf pd_3 rfl) rfl (by show 2 * 0 + _ ≤ _; exact Nat.le_of_eq rfl) (hb hby at_169) (fun _ _ => ⟨rfl, e78, (by decide : 1 + 0 ≤ _), (by decide : 8 + 0 ≤ _)⟩)
  dsimp only [Pt.U, Pt.locs, Pt.cells, Pt.slots] at X84 l84 y84 z84 st84 hQ84
  subst y84 z84
  obtain ⟨rfl, Nq84, e84⟩ := hQ84
  have N85 : Fr n0 L84 := by rw [l84]; exact Fr.app N79 Nq84
  have J86 : ∀ t, Steps p.tables e below (T84.setTop (mkF m 172 #[.val (.long q1), .second, .val (.int p2), .val (.ref b2), .val (.int (Int32.ofNat A)), .val (.int (Int32.ofNat B)), .val (.int (Int32.ofNat E5)), .unset, .unset, .unset, .unset, .unset, .unset, .unset, .unset, .unset, .unset] [(.int (Int32.ofNat (own_cut ff 2 A E5)))])) t → Steps p.tables e below (s₁.setTop (entryFrame m #[(.long q1), (.int p2)] maxLocals)) t := fun t k => J83 t (st84 t k)
  obtain ⟨E6, hE6⟩ : ∃ z : Nat, z = own_cut ff 2 A E5 := ⟨_, rfl⟩
  have qE6 : E6 = own_e ff A B 6 := by rw [hE6, qE5]; rfl
  have J87 : ∀ t, Steps p.tables e below (T84.setTop (mkF m 172 #[.val (.long q1), .second, .val (.int p2), .val (.ref b2), .val (.int (Int32.ofNat A)), .val (.int (Int32.ofNat B)), .val (.int (Int32.ofNat E5)), .unset, .unset, .unset, .unset, .unset, .unset, .unset, .unset, .unset, .unset] [(.int (Int32.ofNat E6))])) t → Steps p.tables e below (s₁.setTop (entryFrame m #[(.long q1), (.int p2)] maxLocals)) t := fun t k => J86 t (by rw [hE6] at k; exact k)
  have J88 : ∀ t, Steps p.tables e below (T84.setTop (mkF m 180 #[.val (.long q1), .second, .val (.int p2), .val (.ref b2), .val (.int (Int32.ofNat A)), .val (.int (Int32.ofNat B)), .val (.int (Int32.ofNat E6)), .unset, .unset, .unset, .unset, .unset, .unset, .unset, .unset, .unset, .unset] [(.int (Int32.ofNat E6)), (.int (Int32.ofNat A)), (.int (1 : Int32)), (.ref b2)])) t → Steps p.tables e below (s₁.setTop (entryFrame m #[(.long q1), (.int p2)] maxLocals)) t := fun t k => J87 t (by
      show Steps p.tables e below (T84.setTop (mkF m 172 #[.val (.long q1), .second, .val (.int p2), .val (.ref b2), .val (.int (Int32.ofNat A)), .val (.int (Int32.ofNat B)), .val (.int (Int32.ofNat E5)), .unset, .unset, .unset, .unset, .unset, .unset, .unset, .unset, .unset, .unset] [(.int (Int32.ofNat E6))])) _
      refine XS.istore X84.here hx rfl (hb hby at_172) rfl (l' := #[.val (.long q1), .second, .val (.int p2), .val (.ref b2), .val (.int (Int32.ofNat A)), .val (.int (Int32.ofNat B)), .val (.int (Int32.ofNat E6)), .unset, .unset, .unset, .unset, .unset, .unset, .unset, .unset, .unset, .unset]) rfl ?_
      show Steps p.tables e below (T84.setTop (mkF m 174 #[.val (.long q1), .second, .val (.int p2), .val (.ref b2), .val (.int (Int32.ofNat A)), .val (.int (Int32.ofNat B)), .val (.int (Int32.ofNat E6)), .unset, .unset, .unset, .unset, .unset, .unset, .unset, .unset, .unset, .unset] [])) _
      refine XS.aloadN X84.here hx rfl (hb hby at_174) rfl rfl ?_
      show Steps p.tables e below (T84.setTop (mkF m 175 #[.val (.long q1), .second, .val (.int p2), .val (.ref b2), .val (.int (Int32.ofNat A)), .val (.int (Int32.ofNat B)), .val (.int (Int32.ofNat E6)), .unset, .unset, .unset, .unset, .unset, .unset, .unset, .unset, .unset, .unset] [(.ref b2)])) _
      refine XS.iconst X84.here hx rfl (hb hby at_175) ?_
      show Steps p.tables e below (T84.setTop (mkF m 176 #[.val (.long q1), .second, .val (.int p2), .val (.ref b2), .val (.int (Int32.ofNat A)), .val (.int (Int32.ofNat B)), .val (.int (Int32.ofNat E6)), .unset, .unset, .unset, .unset, .unset, .unset, .unset, .unset, .unset, .unset] [(.int (1 : Int32)), (.ref b2)])) _
      refine XS.iload X84.here hx rfl (hb hby at_176) rfl ?_
      show Steps p.tables e below (T84.setTop (mkF m 178 #[.val (.long q1), .second, .val (.int p2), .val (.ref b2), .val (.int (Int32.ofNat A)), .val (.int (Int32.ofNat B)), .val (.int (Int32.ofNat E6)), .unset, .unset, .unset, .unset, .unset, .unset, .unset, .unset, .unset, .unset] [(.int (Int32.ofNat A)), (.int (1 : Int32)), (.ref b2)])) _
      refine XS.iload X84.here hx rfl (hb hby at_178) rfl ?_
      exact k)
  have J89 : ∀ t, Steps p.tables e below (T84.setTop (mkF m 180 #[.val (.long q1), .second, .val (.int p2), .val (.ref b2), .val (.int (Int32.ofNat A)), .val (.int (Int32.ofNat B)), .val (.int (Int32.ofNat E6)), .unset, .unset, .unset, .unset, .unset, .unset, .unset, .unset, .unset, .unset] [(.int (Int32.ofNat E6)), (.int (Int32.ofNat A)), (.int (Int32.ofNat 1)), (.ref b2)])) t → Steps p.tables e below (s₁.setTop (entryFrame m #[(.long q1), (.int p2)] maxLocals)) t := J88
  obtain ⟨_, _, ⟨T90, L90, k90, n90⟩, -, X90, ⟨Lc90, hQ90, l90, y90, z90⟩, st90⟩ := Jvm.LawKit.callS X84 hx (y := (⟨"com/example/wisteria/wisteria/value/TextValueCharacterCountBeforeNulPinLaw", "cut", "([BIII)I"⟩ : MethodName)) hown (mvT hZ (hw _ (List.mem_of_getElem? (i := 2) rfl))) (mvT hZ (hw _ (List.mem_of_getElem? (i := 3) rfl))) (mvT hZ (hw _ (List.mem_of_getElem? (i := 4) rfl))) (mvT hZ (hw _ (List.mem_of_getElem? (i := 5) rfl))) (by decide) (backOf (W := 0) (rm1 l Z a0 hw [] b2 cl42 ff 1 A E6 h42 n0 Z44 Aw42 L (by decide) hA (by rw [qE6]; exact own_e_le hB 6)) hZ (hw _ (List.mem_of_getElem? (i := 5) rfl)) (hw _ (List.mem_of_getElem? (i := 4) rfl)) (by decide) (by decide)) (g := (mkF m 180 #[.val (.long q1), .second, .val (.int p2), .val (.ref b2), .val (.int (Int32.ofNat A)), .val (.int (Int32.ofNat B)), .val (.int (Int32.ofNat E6)), .unset, .unset, .unset, .unset, .unset, .unset, .unset, .unset, .unset, .unset] [(.int (Int32.ofNat E6)), (.int (Int32.ofNat A)), (.int (Int32.ofNat 1)), (.ref b2)])) rfl (by rw [hml]; rfl) (argsL := [(.ref b2), (.int (Int32.ofNat 1)), (.int (Int32.ofNat A)), (.int (Int32.ofNat E6))]) (rest := []) (lenOf pd_3 rfl) rfl (by show 2 * 0 + _ ≤ _; exact Nat.le_of_eq rfl) (hb hby at_180) (fun _ _ => ⟨rfl, e84, (by decide : 1 + 0 ≤ _), (by decide : 8 + 0 ≤ _)⟩)
  dsimp only [Pt.U, Pt.locs, Pt.cells, Pt.slots] at X90 l90 y90 z90 st90 hQ90
  subst y90 z90
  obtain ⟨rfl, Nq90, e90⟩ := hQ90
  have N91 : Fr n0 L90 := by rw [l90]; exact Fr.app N85 Nq90
  have J92 : ∀ t, Steps p.tables e below (T90.setTop (mkF m 183 #[.val (.long q1), .second, .val (.int p2), .val (.ref b2), .val (.int (Int32.ofNat A)), .val (.int (Int32.ofNat B)), .val (.int (Int32.ofNat E6)), .unset, .unset, .unset, .unset, .unset, .unset, .unset, .unset, .unset, .unset] [(.int (Int32.ofNat (own_cut ff 1 A E6)))])) t → Steps p.tables e below (s₁.setTop (entryFrame m #[(.long q1), (.int p2)] maxLocals)) t := fun t k => J89 t (st90 t k)
  obtain ⟨E7, hE7⟩ : ∃ z : Nat, z = own_cut ff 1 A E6 := ⟨_, rfl⟩
  have qE7 : E7 = own_e ff A B 7 := by rw [hE7, qE6]; rfl
  have J93 : ∀ t, Steps p.tables e below (T90.setTop (mkF m 183 #[.val (.long q1), .second, .val (.int p2), .val (.ref b2), .val (.int (Int32.ofNat A)), .val (.int (Int32.ofNat B)), .val (.int (Int32.ofNat E6)), .unset, .unset, .unset, .unset, .unset, .unset, .unset, .unset, .unset, .unset] [(.int (Int32.ofNat E7))])) t → Steps p.tables e below (s₁.setTop (entryFrame m #[(.long q1), (.int p2)] maxLocals)) t := fun t k => J92 t (by rw [hE7] at k; exact k)
  have J94 : ∀ t, Steps p.tables e below (T90.setTop (mkF m 191 #[.val (.long q1), .second, .val (.int p2), .val (.ref b2), .val (.int (Int32.ofNat A)), .val (.int (Int32.ofNat B)), .val (.int (Int32.ofNat E7)), .unset, .unset, .unset, .unset, .unset, .unset, .unset, .unset, .unset, .unset] [(.int (Int32.ofNat E7)), (.int (Int32.ofNat A)), (.int (0 : Int32)), (.ref b2)])) t → Steps p.tables e below (s₁.setTop (entryFrame m #[(.long q1), (.int p2)] maxLocals)) t := fun t k => J93 t (by
      show Steps p.tables e below (T90.setTop (mkF m 183 #[.val (.long q1), .second, .val (.int p2), .val (.ref b2), .val (.int (Int32.ofNat A)), .val (.int (Int32.ofNat B)), .val (.int (Int32.ofNat E6)), .unset, .unset, .unset, .unset, .unset, .unset, .unset, .unset, .unset, .unset] [(.int (Int32.ofNat E7))])) _
      refine XS.istore X90.here hx rfl (hb hby at_183) rfl (l' := #[.val (.long q1), .second, .val (.int p2), .val (.ref b2), .val (.int (Int32.ofNat A)), .val (.int (Int32.ofNat B)), .val (.int (Int32.ofNat E7)), .unset, .unset, .unset, .unset, .unset, .unset, .unset, .unset, .unset, .unset]) rfl ?_
      show Steps p.tables e below (T90.setTop (mkF m 185 #[.val (.long q1), .second, .val (.int p2), .val (.ref b2), .val (.int (Int32.ofNat A)), .val (.int (Int32.ofNat B)), .val (.int (Int32.ofNat E7)), .unset, .unset, .unset, .unset, .unset, .unset, .unset, .unset, .unset, .unset] [])) _
      refine XS.aloadN X90.here hx rfl (hb hby at_185) rfl rfl ?_
      show Steps p.tables e below (T90.setTop (mkF m 186 #[.val (.long q1), .second, .val (.int p2), .val (.ref b2), .val (.int (Int32.ofNat A)), .val (.int (Int32.ofNat B)), .val (.int (Int32.ofNat E7)), .unset, .unset, .unset, .unset, .unset, .unset, .unset, .unset, .unset, .unset] [(.ref b2)])) _
      refine XS.iconst X90.here hx rfl (hb hby at_186) ?_
      show Steps p.tables e below (T90.setTop (mkF m 187 #[.val (.long q1), .second, .val (.int p2), .val (.ref b2), .val (.int (Int32.ofNat A)), .val (.int (Int32.ofNat B)), .val (.int (Int32.ofNat E7)), .unset, .unset, .unset, .unset, .unset, .unset, .unset, .unset, .unset, .unset] [(.int (0 : Int32)), (.ref b2)])) _
      refine XS.iload X90.here hx rfl (hb hby at_187) rfl ?_
      show Steps p.tables e below (T90.setTop (mkF m 189 #[.val (.long q1), .second, .val (.int p2), .val (.ref b2), .val (.int (Int32.ofNat A)), .val (.int (Int32.ofNat B)), .val (.int (Int32.ofNat E7)), .unset, .unset, .unset, .unset, .unset, .unset, .unset, .unset, .unset, .unset] [(.int (Int32.ofNat A)), (.int (0 : Int32)), (.ref b2)])) _
      refine XS.iload X90.here hx rfl (hb hby at_189) rfl ?_
      exact k)
  have J95 : ∀ t, Steps p.tables e below (T90.setTop (mkF m 191 #[.val (.long q1), .second, .val (.int p2), .val (.ref b2), .val (.int (Int32.ofNat A)), .val (.int (Int32.ofNat B)), .val (.int (Int32.ofNat E7)), .unset, .unset, .unset, .unset, .unset, .unset, .unset, .unset, .unset, .unset] [(.int (Int32.ofNat E7)), (.int (Int32.ofNat A)), (.int (Int32.ofNat 0)), (.ref b2)])) t → Steps p.tables e below (s₁.setTop (entryFrame m #[(.long q1), (.int p2)] maxLocals)) t := J94
  obtain ⟨_, _, ⟨T96, L96, k96, n96⟩, -, X96, ⟨Lc96, hQ96, l96, y96, z96⟩, st96⟩ := Jvm.LawKit.callS X90 hx (y := (⟨"com/example/wisteria/wisteria/value/TextValueCharacterCountBeforeNulPinLaw", "cut", "([BIII)I"⟩ : MethodName)) hown (mvT hZ (hw _ (List.mem_of_getElem? (i := 2) rfl))) (mvT hZ (hw _ (List.mem_of_getElem? (i := 3) rfl))) (mvT hZ (hw _ (List.mem_of_getElem? (i := 4) rfl))) (mvT hZ (hw _ (List.mem_of_getElem? (i := 5) rfl))) (by decide) (backOf (W := 0) (rm1 l Z a0 hw [] b2 cl42 ff 0 A E7 h42 n0 Z44 Aw42 L (by decide) hA (by rw [qE7]; exact own_e_le hB 7)) hZ (hw _ (List.mem_of_getElem? (i := 5) rfl)) (hw _ (List.mem_of_getElem? (i := 4) rfl)) (by decide) (by decide)) (g := (mkF m 191 #[.val (.long q1), .second, .val (.int p2), .val (.ref b2), .val (.int (Int32.ofNat A)), .val (.int (Int32.ofNat B)), .val (.int (Int32.ofNat E7)), .unset, .unset, .unset, .unset, .unset, .unset, .unset, .unset, .unset, .unset] [(.int (Int32.ofNat E7)), (.int (Int32.ofNat A)), (.int (Int32.ofNat 0)), (.ref b2)])) rfl (by rw [hml]; rfl) (argsL := [(.ref b2), (.int (Int32.ofNat 0)), (.int (Int32.ofNat A)), (.int (Int32.ofNat E7))]) (rest := []) (lenOf pd_3 rfl) rfl (by show 2 * 0 + _ ≤ _; exact Nat.le_of_eq rfl) (hb hby at_191) (fun _ _ => ⟨rfl, e90, (by decide : 1 + 0 ≤ _), (by decide : 8 + 0 ≤ _)⟩)
  dsimp only [Pt.U, Pt.locs, Pt.cells, Pt.slots] at X96 l96 y96 z96 st96 hQ96
  subst y96 z96
  obtain ⟨rfl, Nq96, e96⟩ := hQ96
  have N97 : Fr n0 L96 := by rw [l96]; exact Fr.app N91 Nq96
  have J98 : ∀ t, Steps p.tables e below (T96.setTop (mkF m 194 #[.val (.long q1), .second, .val (.int p2), .val (.ref b2), .val (.int (Int32.ofNat A)), .val (.int (Int32.ofNat B)), .val (.int (Int32.ofNat E7)), .unset, .unset, .unset, .unset, .unset, .unset, .unset, .unset, .unset, .unset] [(.int (Int32.ofNat (own_cut ff 0 A E7)))])) t → Steps p.tables e below (s₁.setTop (entryFrame m #[(.long q1), (.int p2)] maxLocals)) t := fun t k => J95 t (st96 t k)
  obtain ⟨E8, hE8⟩ : ∃ z : Nat, z = own_cut ff 0 A E7 := ⟨_, rfl⟩
  have qE8 : E8 = own_e ff A B 8 := by rw [hE8, qE7]; rfl
  have J99 : ∀ t, Steps p.tables e below (T96.setTop (mkF m 194 #[.val (.long q1), .second, .val (.int p2), .val (.ref b2), .val (.int (Int32.ofNat A)), .val (.int (Int32.ofNat B)), .val (.int (Int32.ofNat E7)), .unset, .unset, .unset, .unset, .unset, .unset, .unset, .unset, .unset, .unset] [(.int (Int32.ofNat E8))])) t → Steps p.tables e below (s₁.setTop (entryFrame m #[(.long q1), (.int p2)] maxLocals)) t := fun t k => J98 t (by rw [hE8] at k; exact k)
  have J100 : ∀ t, Steps p.tables e below (T96.setTop (mkF m 201 #[.val (.long q1), .second, .val (.int p2), .val (.ref b2), .val (.int (Int32.ofNat A)), .val (.int (Int32.ofNat B)), .val (.int (Int32.ofNat E8)), .unset, .unset, .unset, .unset, .unset, .unset, .unset, .unset, .unset, .unset] [(.int (0 : Int32)), (.int (Int32.ofNat A)), (.int (0 : Int32)), (.ref b2)])) t → Steps p.tables e below (s₁.setTop (entryFrame m #[(.long q1), (.int p2)] maxLocals)) t := fun t k => J99 t (by
      show Steps p.tables e below (T96.setTop (mkF m 194 #[.val (.long q1), .second, .val (.int p2), .val (.ref b2), .val (.int (Int32.ofNat A)), .val (.int (Int32.ofNat B)), .val (.int (Int32.ofNat E7)), .unset, .unset, .unset, .unset, .unset, .unset, .unset, .unset, .unset, .unset] [(.int (Int32.ofNat E8))])) _
      refine XS.istore X96.here hx rfl (hb hby at_194) rfl (l' := #[.val (.long q1), .second, .val (.int p2), .val (.ref b2), .val (.int (Int32.ofNat A)), .val (.int (Int32.ofNat B)), .val (.int (Int32.ofNat E8)), .unset, .unset, .unset, .unset, .unset, .unset, .unset, .unset, .unset, .unset]) rfl ?_
      show Steps p.tables e below (T96.setTop (mkF m 196 #[.val (.long q1), .second, .val (.int p2), .val (.ref b2), .val (.int (Int32.ofNat A)), .val (.int (Int32.ofNat B)), .val (.int (Int32.ofNat E8)), .unset, .unset, .unset, .unset, .unset, .unset, .unset, .unset, .unset, .unset] [])) _
      refine XS.aloadN X96.here hx rfl (hb hby at_196) rfl rfl ?_
      show Steps p.tables e below (T96.setTop (mkF m 197 #[.val (.long q1), .second, .val (.int p2), .val (.ref b2), .val (.int (Int32.ofNat A)), .val (.int (Int32.ofNat B)), .val (.int (Int32.ofNat E8)), .unset, .unset, .unset, .unset, .unset, .unset, .unset, .unset, .unset, .unset] [(.ref b2)])) _
      refine XS.iconst X96.here hx rfl (hb hby at_197) ?_
      show Steps p.tables e below (T96.setTop (mkF m 198 #[.val (.long q1), .second, .val (.int p2), .val (.ref b2), .val (.int (Int32.ofNat A)), .val (.int (Int32.ofNat B)), .val (.int (Int32.ofNat E8)), .unset, .unset, .unset, .unset, .unset, .unset, .unset, .unset, .unset, .unset] [(.int (0 : Int32)), (.ref b2)])) _
      refine XS.iload X96.here hx rfl (hb hby at_198) rfl ?_
      show Steps p.tables e below (T96.setTop (mkF m 200 #[.val (.long q1), .second, .val (.int p2), .val (.ref b2), .val (.int (Int32.ofNat A)), .val (.int (Int32.ofNat B)), .val (.int (Int32.ofNat E8)), .unset, .unset, .unset, .unset, .unset, .unset, .unset, .unset, .unset, .unset] [(.int (Int32.ofNat A)), (.int (0 : Int32)), (.ref b2)])) _
      refine XS.iconst X96.here hx rfl (hb hby at_200) ?_
      exact k)
  have J101 : ∀ t, Steps p.tables e below (T96.setTop (mkF m 201 #[.val (.long q1), .second, .val (.int p2), .val (.ref b2), .val (.int (Int32.ofNat A)), .val (.int (Int32.ofNat B)), .val (.int (Int32.ofNat E8)), .unset, .unset, .unset, .unset, .unset, .unset, .unset, .unset, .unset, .unset] [(.int (0 : Int32)), (.int (Int32.ofNat A)), (.int (Int32.ofNat 0)), (.ref b2)])) t → Steps p.tables e below (s₁.setTop (entryFrame m #[(.long q1), (.int p2)] maxLocals)) t := J100
  have J102 : ∀ t, Steps p.tables e below (T96.setTop (mkF m 201 #[.val (.long q1), .second, .val (.int p2), .val (.ref b2), .val (.int (Int32.ofNat A)), .val (.int (Int32.ofNat B)), .val (.int (Int32.ofNat E8)), .unset, .unset, .unset, .unset, .unset, .unset, .unset, .unset, .unset, .unset] [(.int (own_b2i false)), (.int (Int32.ofNat A)), (.int (Int32.ofNat 0)), (.ref b2)])) t → Steps p.tables e below (s₁.setTop (entryFrame m #[(.long q1), (.int p2)] maxLocals)) t := J101
  obtain ⟨_, _, ⟨T103, L103, k103, n103⟩, -, X103, ⟨Lc103, hQ103, l103, y103, z103⟩, st103⟩ := Jvm.LawKit.callS X96 hx (y := (⟨"com/example/wisteria/wisteria/value/TextValueCharacterCountBeforeNulPinLaw", "absorbed", "([BIIZ)Z"⟩ : MethodName)) hown (mvT hZ (hw _ (List.mem_of_getElem? (i := 6) rfl))) (mvT hZ (hw _ (List.mem_of_getElem? (i := 7) rfl))) (mvT hZ (hw _ (List.mem_of_getElem? (i := 4) rfl))) (mvT hZ (hw _ (List.mem_of_getElem? (i := 8) rfl))) (by decide) (backOf (W := 0) (rm2 l Z a0 hw [] b2 cl42 ff 0 A false h42 n0 Z44 Aw42 L (by decide) hA) hZ (hw _ (List.mem_of_getElem? (i := 8) rfl)) (hw _ (List.mem_of_getElem? (i := 4) rfl)) (by decide) (by decide)) (g := (mkF m 201 #[.val (.long q1), .second, .val (.int p2), .val (.ref b2), .val (.int (Int32.ofNat A)), .val (.int (Int32.ofNat B)), .val (.int (Int32.ofNat E8)), .unset, .unset, .unset, .unset, .unset, .unset, .unset, .unset, .unset, .unset] [(.int (own_b2i false)), (.int (Int32.ofNat A)), (.int (Int32.ofNat 0)), (.ref b2)])) rfl (by rw [hml]; rfl) (argsL := [(.ref b2), (.int (Int32.ofNat 0)), (.int (Int32.ofNat A)), (.int (own_b2i false))]) (rest := []) (lenOf pd_4 rfl) rfl (by show 2 * 0 + _ ≤ _; exact Nat.le_of_eq rfl) (hb hby at_201) (fun _ _ => ⟨rfl, e96, (by decide : 1 + 0 ≤ _), (by decide : 8 + 0 ≤ _)⟩)
  dsimp only [Pt.U, Pt.locs, Pt.cells, Pt.slots] at X103 l103 y103 z103 st103 hQ103
  subst y103 z103
  obtain ⟨rfl, Nq103, e103⟩ := hQ103
  have N104 : Fr n0 L103 := by rw [l103]; exact Fr.app N97 Nq103
  have J105 : ∀ t, Steps p.tables e below (T103.setTop (mkF m 204 #[.val (.long q1), .second, .val (.int p2), .val (.ref b2), .val (.int (Int32.ofNat A)), .val (.int (Int32.ofNat B)), .val (.int (Int32.ofNat E8)), .unset, .unset, .unset, .unset, .unset, .unset, .unset, .unset, .unset, .unset] [(.int (own_b2i (own_abs ff 0 A false)))])) t → Steps p.tables e below (s₁.setTop (entryFrame m #[(.long q1), (.int p2)] maxLocals)) t := fun t k => J102 t (st103 t k)
  obtain ⟨s0_, hs0⟩ : ∃ z : Bool, z = own_abs ff 0 A false := ⟨_, rfl⟩
  have qs0 : s0_ = own_s ff A 0 := by rw [hs0]; rfl
  have J106 : ∀ t, Steps p.tables e below (T103.setTop (mkF m 204 #[.val (.long q1), .second, .val (.int p2), .val (.ref b2), .val (.int (Int32.ofNat A)), .val (.int (Int32.ofNat B)), .val (.int (Int32.ofNat E8)), .unset, .unset, .unset, .unset, .unset, .unset, .unset, .unset, .unset, .unset] [(.int (own_b2i s0_))])) t → Steps p.tables e below (s₁.setTop (entryFrame m #[(.long q1), (.int p2)] maxLocals)) t := fun t k => J105 t (by rw [hs0] at k; exact k)
  have J107 : ∀ t, Steps p.tables e below (T103.setTop (mkF m 212 #[.val (.long q1), .second, .val (.int p2), .val (.ref b2), .val (.int (Int32.ofNat A)), .val (.int (Int32.ofNat B)), .val (.int (Int32.ofNat E8)), .val (.int (own_b2i s0_)), .unset, .unset, .unset, .unset, .unset, .unset, .unset, .unset, .unset] [(.int (own_b2i s0_)), (.int (Int32.ofNat A)), (.int (1 : Int32)), (.ref b2)])) t → Steps p.tables e below (s₁.setTop (entryFrame m #[(.long q1), (.int p2)] maxLocals)) t := fun t k => J106 t (by
      show Steps p.tables e below (T103.setTop (mkF m 204 #[.val (.long q1), .second, .val (.int p2), .val (.ref b2), .val (.int (Int32.ofNat A)), .val (.int (Int32.ofNat B)), .val (.int (Int32.ofNat E8)), .unset, .unset, .unset, .unset, .unset, .unset, .unset, .unset, .unset, .unset] [(.int (own_b2i s0_))])) _
      refine XS.istore X103.here hx rfl (hb hby at_204) rfl (l' := #[.val (.long q1), .second, .val (.int p2), .val (.ref b2), .val (.int (Int32.ofNat A)), .val (.int (Int32.ofNat B)), .val (.int (Int32.ofNat E8)), .val (.int (own_b2i s0_)), .unset, .unset, .unset, .unset, .unset, .unset, .unset, .unset, .unset]) rfl ?_
      show Steps p.tables e below (T103.setTop (mkF m 206 #[.val (.long q1), .second, .val (.int p2), .val (.ref b2), .val (.int (Int32.ofNat A)), .val (.int (Int32.ofNat B)), .val (.int (Int32.ofNat E8)), .val (.int (own_b2i s0_)), .unset, .unset, .unset, .unset, .unset, .unset, .unset, .unset, .unset] [])) _
      refine XS.aloadN X103.here hx rfl (hb hby at_206) rfl rfl ?_
      show Steps p.tables e below (T103.setTop (mkF m 207 #[.val (.long q1), .second, .val (.int p2), .val (.ref b2), .val (.int (Int32.ofNat A)), .val (.int (Int32.ofNat B)), .val (.int (Int32.ofNat E8)), .val (.int (own_b2i s0_)), .unset, .unset, .unset, .unset, .unset, .unset, .unset, .unset, .unset] [(.ref b2)])) _
      refine XS.iconst X103.here hx rfl (hb hby at_207) ?_
      show Steps p.tables e below (T103.setTop (mkF m 208 #[.val (.long q1), .second, .val (.int p2), .val (.ref b2), .val (.int (Int32.ofNat A)), .val (.int (Int32.ofNat B)), .val (.int (Int32.ofNat E8)), .val (.int (own_b2i s0_)), .unset, .unset, .unset, .unset, .unset, .unset, .unset, .unset, .unset] [(.int (1 : Int32)), (.ref b2)])) _
      refine XS.iload X103.here hx rfl (hb hby at_208) rfl ?_
      show Steps p.tables e below (T103.setTop (mkF m 210 #[.val (.long q1), .second, .val (.int p2), .val (.ref b2), .val (.int (Int32.ofNat A)), .val (.int (Int32.ofNat B)), .val (.int (Int32.ofNat E8)), .val (.int (own_b2i s0_)), .unset, .unset, .unset, .unset, .unset, .unset, .unset, .unset, .unset] [(.int (Int32.ofNat A)), (.int (1 : Int32)), (.ref b2)])) _
      refine XS.iload X103.here hx rfl (hb hby at_210) rfl ?_
      exact k)
  have J108 : ∀ t, Steps p.tables e below (T103.setTop (mkF m 212 #[.val (.long q1), .second, .val (.int p2), .val (.ref b2), .val (.int (Int32.ofNat A)), .val (.int (Int32.ofNat B)), .val (.int (Int32.ofNat E8)), .val (.int (own_b2i s0_)), .unset, .unset, .unset, .unset, .unset, .unset, .unset, .unset, .unset] [(.int (own_b2i s0_)), (.int (Int32.ofNat A)), (.int (Int32.ofNat 1)), (.ref b2)])) t → Steps p.tables e below (s₁.setTop (entryFrame m #[(.long q1), (.int p2)] maxLocals)) t := J107
  obtain ⟨_, _, ⟨T109, L109, k109, n109⟩, -, X109, ⟨Lc109, hQ109, l109, y109, z109⟩, st109⟩ := Jvm.LawKit.callS X103 hx (y := (⟨"com/example/wisteria/wisteria/value/TextValueCharacterCountBeforeNulPinLaw", "absorbed", "([BIIZ)Z"⟩ : MethodName)) hown (mvT hZ (hw _ (List.mem_of_getElem? (i := 6) rfl))) (mvT hZ (hw _ (List.mem_of_getElem? (i := 7) rfl))) (mvT hZ (hw _ (List.mem_of_getElem? (i := 4) rfl))) (mvT hZ (hw _ (List.mem_of_getElem? (i := 8) rfl))) (by decide) (backOf (W := 0) (rm2 l Z a0 hw [] b2 cl42 ff 1 A s0_ h42 n0 Z44 Aw42 L (by decide) hA) hZ (hw _ (List.mem_of_getElem? (i := 8) rfl)) (hw _ (List.mem_of_getElem? (i := 4) rfl)) (by decide) (by decide)) (g := (mkF m 212 #[.val (.long q1), .second, .val (.int p2), .val (.ref b2), .val (.int (Int32.ofNat A)), .val (.int (Int32.ofNat B)), .val (.int (Int32.ofNat E8)), .val (.int (own_b2i s0_)), .unset, .unset, .unset, .unset, .unset, .unset, .unset, .unset, .unset] [(.int (own_b2i s0_)), (.int (Int32.ofNat A)), (.int (Int32.ofNat 1)), (.ref b2)])) rfl (by rw [hml]; rfl) (argsL := [(.ref b2), (.int (Int32.ofNat 1)), (.int (Int32.ofNat A)), (.int (own_b2i s0_))]) (rest := []) (lenOf pd_4 rfl) rfl (by show 2 * 0 + _ ≤ _; exact Nat.le_of_eq rfl) (hb hby at_212) (fun _ _ => ⟨rfl, e103, (by decide : 1 + 0 ≤ _), (by decide : 8 + 0 ≤ _)⟩)
  dsimp only [Pt.U, Pt.locs, Pt.cells, Pt.slots] at X109 l109 y109 z109 st109 hQ109
  subst y109 z109
  obtain ⟨rfl, Nq109, e109⟩ := hQ109
  have N110 : Fr n0 L109 := by rw [l109]; exact Fr.app N104 Nq109
  have J111 : ∀ t, Steps p.tables e below (T109.setTop (mkF m 215 #[.val (.long q1), .second, .val (.int p2), .val (.ref b2), .val (.int (Int32.ofNat A)), .val (.int (Int32.ofNat B)), .val (.int (Int32.ofNat E8)), .val (.int (own_b2i s0_)), .unset, .unset, .unset, .unset, .unset, .unset, .unset, .unset, .unset] [(.int (own_b2i (own_abs ff 1 A s0_)))])) t → Steps p.tables e below (s₁.setTop (entryFrame m #[(.long q1), (.int p2)] maxLocals)) t := fun t k => J108 t (st109 t k)
  obtain ⟨s1_, hs1⟩ : ∃ z : Bool, z = own_abs ff 1 A s0_ := ⟨_, rfl⟩
  have qs1 : s1_ = own_s ff A 1 := by rw [hs1, qs0]; rfl
  have J112 : ∀ t, Steps p.tables e below (T109.setTop (mkF m 215 #[.val (.long q1), .second, .val (.int p2), .val (.ref b2), .val (.int (Int32.ofNat A)), .val (.int (Int32.ofNat B)), .val (.int (Int32.ofNat E8)), .val (.int (own_b2i s0_)), .unset, .unset, .unset, .unset, .unset, .unset, .unset, .unset, .unset] [(.int (own_b2i s1_))])) t → Steps p.tables e below (s₁.setTop (entryFrame m #[(.long q1), (.int p2)] maxLocals)) t := fun t k => J111 t (by rw [hs1] at k; exact k)
  have J113 : ∀ t, Steps p.tables e below (T109.setTop (mkF m 223 #[.val (.long q1), .second, .val (.int p2), .val (.ref b2), .val (.int (Int32.ofNat A)), .val (.int (Int32.ofNat B)), .val (.int (Int32.ofNat E8)), .val (.int (own_b2i s0_)), .val (.int (own_b2i s1_)), .unset, .unset, .unset, .unset, .unset, .unset, .unset, .unset] [(.int (own_b2i s1_)), (.int (Int32.ofNat A)), (.int (2 : Int32)), (.ref b2)])) t → Steps p.tables e below (s₁.setTop (entryFrame m #[(.long q1), (.int p2)] maxLocals)) t := fun t k => J112 t (by
      show Steps p.tables e below (T109.setTop (mkF m 215 #[.val (.long q1), .second, .val (.int p2), .val (.ref b2), .val (.int (Int32.ofNat A)), .val (.int (Int32.ofNat B)), .val (.int (Int32.ofNat E8)), .val (.int (own_b2i s0_)), .unset, .unset, .unset, .unset, .unset, .unset, .unset, .unset, .unset] [(.int (own_b2i s1_))])) _
      refine XS.istore X109.here hx rfl (hb hby at_215) rfl (l' := #[.val (.long q1), .second, .val (.int p2), .val (.ref b2), .val (.int (Int32.ofNat A)), .val (.int (Int32.ofNat B)), .val (.int (Int32.ofNat E8)), .val (.int (own_b2i s0_)), .val (.int (own_b2i s1_)), .unset, .unset, .unset, .unset, .unset, .unset, .unset, .unset]) rfl ?_
      show Steps p.tables e below (T109.setTop (mkF m 217 #[.val (.long q1), .second, .val (.int p2), .val (.ref b2), .val (.int (Int32.ofNat A)), .val (.int (Int32.ofNat B)), .val (.int (Int32.ofNat E8)), .val (.int (own_b2i s0_)), .val (.int (own_b2i s1_)), .unset, .unset, .unset, .unset, .unset, .unset, .unset, .unset] [])) _
      refine XS.aloadN X109.here hx rfl (hb hby at_217) rfl rfl ?_
      show Steps p.tables e below (T109.setTop (mkF m 218 #[.val (.long q1), .second, .val (.int p2), .val (.ref b2), .val (.int (Int32.ofNat A)), .val (.int (Int32.ofNat B)), .val (.int (Int32.ofNat E8)), .val (.int (own_b2i s0_)), .val (.int (own_b2i s1_)), .unset, .unset, .unset, .unset, .unset, .unset, .unset, .unset] [(.ref b2)])) _
      refine XS.iconst X109.here hx rfl (hb hby at_218) ?_
      show Steps p.tables e below (T109.setTop (mkF m 219 #[.val (.long q1), .second, .val (.int p2), .val (.ref b2), .val (.int (Int32.ofNat A)), .val (.int (Int32.ofNat B)), .val (.int (Int32.ofNat E8)), .val (.int (own_b2i s0_)), .val (.int (own_b2i s1_)), .unset, .unset, .unset, .unset, .unset, .unset, .unset, .unset] [(.int (2 : Int32)), (.ref b2)])) _
      refine XS.iload X109.here hx rfl (hb hby at_219) rfl ?_
      show Steps p.tables e below (T109.setTop (mkF m 221 #[.val (.long q1), .second, .val (.int p2), .val (.ref b2), .val (.int (Int32.ofNat A)), .val (.int (Int32.ofNat B)), .val (.int (Int32.ofNat E8)), .val (.int (own_b2i s0_)), .val (.int (own_b2i s1_)), .unset, .unset, .unset, .unset, .unset, .unset, .unset, .unset] [(.int (Int32.ofNat A)), (.int (2 : Int32)), (.ref b2)])) _
      refine XS.iload X109.here hx rfl (hb hby at_221) rfl ?_
      exact k)
  have J114 : ∀ t, Steps p.tables e below (T109.setTop (mkF m 223 #[.val (.long q1), .second, .val (.int p2), .val (.ref b2), .val (.int (Int32.ofNat A)), .val (.int (Int32.ofNat B)), .val (.int (Int32.ofNat E8)), .val (.int (own_b2i s0_)), .val (.int (own_b2i s1_)), .unset, .unset, .unset, .unset, .unset, .unset, .unset, .unset] [(.int (own_b2i s1_)), (.int (Int32.ofNat A)), (.int (Int32.ofNat 2)), (.ref b2)])) t → Steps p.tables e below (s₁.setTop (entryFrame m #[(.long q1), (.int p2)] maxLocals)) t := J113
  obtain ⟨_, _, ⟨T115, L115, k115, n115⟩, -, X115, ⟨Lc115, hQ115, l115, y115, z115⟩, st115⟩ := Jvm.LawKit.callS X109 hx (y := (⟨"com/example/wisteria/wisteria/value/TextValueCharacterCountBeforeNulPinLaw", "absorbed", "([BIIZ)Z"⟩ : MethodName)) hown (mvT hZ (hw _ (List.mem_of_getElem? (i := 6) rfl))) (mvT hZ (hw _ (List.mem_of_getElem? (i := 7) rfl))) (mvT hZ (hw _ (List.mem_of_getElem? (i := 4) rfl))) (mvT hZ (hw _ (List.mem_of_getElem? (i := 8) rfl))) (by decide) (backOf (W := 0) (rm2 l Z a0 hw [] b2 cl42 ff 2 A s1_ h42 n0 Z44 Aw42 L (by decide) hA) hZ (hw _ (List.mem_of_getElem? (i := 8) rfl)) (hw _ (List.mem_of_getElem? (i := 4) rfl)) (by decide) (by decide)) (g := (mkF m 223 #[.val (.long q1), .second, .val (.int p2), .val (.ref b2), .val (.int (Int32.ofNat A)), .val (.int (Int32.ofNat B)), .val (.int (Int32.ofNat E8)), .val (.int (own_b2i s0_)), .val (.int (own_b2i s1_)), .unset, .unset, .unset, .unset, .unset, .unset, .unset, .unset] [(.int (own_b2i s1_)), (.int (Int32.ofNat A)), (.int (Int32.ofNat 2)), (.ref b2)])) rfl (by rw [hml]; rfl) (argsL := [(.ref b2), (.int (Int32.ofNat 2)), (.int (Int32.ofNat A)), (.int (own_b2i s1_))]) (rest := []) (lenOf pd_4 rfl) rfl (by show 2 * 0 + _ ≤ _; exact Nat.le_of_eq rfl) (hb hby at_223) (fun _ _ => ⟨rfl, e109, (by decide : 1 + 0 ≤ _), (by decide : 8 + 0 ≤ _)⟩)
  dsimp only [Pt.U, Pt.locs, Pt.cells, Pt.slots] at X115 l115 y115 z115 st115 hQ115
  subst y115 z115
  obtain ⟨rfl, Nq115, e115⟩ := hQ115
  have N116 : Fr n0 L115 := by rw [l115]; exact Fr.app N110 Nq115
  have J117 : ∀ t, Steps p.tables e below (T115.setTop (mkF m 226 #[.val (.long q1), .second, .val (.int p2), .val (.ref b2), .val (.int (Int32.ofNat A)), .val (.int (Int32.ofNat B)), .val (.int (Int32.ofNat E8)), .val (.int (own_b2i s0_)), .val (.int (own_b2i s1_)), .unset, .unset, .unset, .unset, .unset, .unset, .unset, .unset] [(.int (own_b2i (own_abs ff 2 A s1_)))])) t → Steps p.tables e below (s₁.setTop (entryFrame m #[(.long q1), (.int p2)] maxLocals)) t := fun t k => J114 t (st115 t k)
  obtain ⟨s2_, hs2⟩ : ∃ z : Bool, z = own_abs ff 2 A s1_ := ⟨_, rfl⟩
  have qs2 : s2_ = own_s ff A 2 := by rw [hs2, qs1]; rfl
  have J118 : ∀ t, Steps p.tables e below (T115.setTop (mkF m 226 #[.val (.long q1), .second, .val (.int p2), .val (.ref b2), .val (.int (Int32.ofNat A)), .val (.int (Int32.ofNat B)), .val (.int (Int32.ofNat E8)), .val (.int (own_b2i s0_)), .val (.int (own_b2i s1_)), .unset, .unset, .unset, .unset, .unset, .unset, .unset, .unset] [(.int (own_b2i s2_))])) t → Steps p.tables e below (s₁.setTop (entryFrame m #[(.long q1), (.int p2)] maxLocals)) t := fun t k => J117 t (by rw [hs2] at k; exact k)
  have J119 : ∀ t, Steps p.tables e below (T115.setTop (mkF m 234 #[.val (.long q1), .second, .val (.int p2), .val (.ref b2), .val (.int (Int32.ofNat A)), .val (.int (Int32.ofNat B)), .val (.int (Int32.ofNat E8)), .val (.int (own_b2i s0_)), .val (.int (own_b2i s1_)), .val (.int (own_b2i s2_)), .unset, .unset, .unset, .unset, .unset, .unset, .unset] [(.int (own_b2i s2_)), (.int (Int32.ofNat A)), (.int (3 : Int32)), (.ref b2)])) t → Steps p.tables e below (s₁.setTop (entryFrame m #[(.long q1), (.int p2)] maxLocals)) t := fun t k => J118 t (by
      show Steps p.tables e below (T115.setTop (mkF m 226 #[.val (.long q1), .second, .val (.int p2), .val (.ref b2), .val (.int (Int32.ofNat A)), .val (.int (Int32.ofNat B)), .val (.int (Int32.ofNat E8)), .val (.int (own_b2i s0_)), .val (.int (own_b2i s1_)), .unset, .unset, .unset, .unset, .unset, .unset, .unset, .unset] [(.int (own_b2i s2_))])) _
      refine XS.istore X115.here hx rfl (hb hby at_226) rfl (l' := #[.val (.long q1), .second, .val (.int p2), .val (.ref b2), .val (.int (Int32.ofNat A)), .val (.int (Int32.ofNat B)), .val (.int (Int32.ofNat E8)), .val (.int (own_b2i s0_)), .val (.int (own_b2i s1_)), .val (.int (own_b2i s2_)), .unset, .unset, .unset, .unset, .unset, .unset, .unset]) rfl ?_
      show Steps p.tables e below (T115.setTop (mkF m 228 #[.val (.long q1), .second, .val (.int p2), .val (.ref b2), .val (.int (Int32.ofNat A)), .val (.int (Int32.ofNat B)), .val (.int (Int32.ofNat E8)), .val (.int (own_b2i s0_)), .val (.int (own_b2i s1_)), .val (.int (own_b2i s2_)), .unset, .unset, .unset, .unset, .unset, .unset, .unset] [])) _
      refine XS.aloadN X115.here hx rfl (hb hby at_228) rfl rfl ?_
      show Steps p.tables e below (T115.setTop (mkF m 229 #[.val (.long q1), .second, .val (.int p2), .val (.ref b2), .val (.int (Int32.ofNat A)), .val (.int (Int32.ofNat B)), .val (.int (Int32.ofNat E8)), .val (.int (own_b2i s0_)), .val (.int (own_b2i s1_)), .val (.int (own_b2i s2_)), .unset, .unset, .unset, .unset, .unset, .unset, .unset] [(.ref b2)])) _
      refine XS.iconst X115.here hx rfl (hb hby at_229) ?_
      show Steps p.tables e below (T115.setTop (mkF m 230 #[.val (.long q1), .second, .val (.int p2), .val (.ref b2), .val (.int (Int32.ofNat A)), .val (.int (Int32.ofNat B)), .val (.int (Int32.ofNat E8)), .val (.int (own_b2i s0_)), .val (.int (own_b2i s1_)), .val (.int (own_b2i s2_)), .unset, .unset, .unset, .unset, .unset, .unset, .unset] [(.int (3 : Int32)), (.ref b2)])) _
      refine XS.iload X115.here hx rfl (hb hby at_230) rfl ?_
      show Steps p.tables e below (T115.setTop (mkF m 232 #[.val (.long q1), .second, .val (.int p2), .val (.ref b2), .val (.int (Int32.ofNat A)), .val (.int (Int32.ofNat B)), .val (.int (Int32.ofNat E8)), .val (.int (own_b2i s0_)), .val (.int (own_b2i s1_)), .val (.int (own_b2i s2_)), .unset, .unset, .unset, .unset, .unset, .unset, .unset] [(.int (Int32.ofNat A)), (.int (3 : Int32)), (.ref b2)])) _
      refine XS.iload X115.here hx rfl (hb hby at_232) rfl ?_
      exact k)
  have J120 : ∀ t, Steps p.tables e below (T115.setTop (mkF m 234 #[.val (.long q1), .second, .val (.int p2), .val (.ref b2), .val (.int (Int32.ofNat A)), .val (.int (Int32.ofNat B)), .val (.int (Int32.ofNat E8)), .val (.int (own_b2i s0_)), .val (.int (own_b2i s1_)), .val (.int (own_b2i s2_)), .unset, .unset, .unset, .unset, .unset, .unset, .unset] [(.int (own_b2i s2_)), (.int (Int32.ofNat A)), (.int (Int32.ofNat 3)), (.ref b2)])) t → Steps p.tables e below (s₁.setTop (entryFrame m #[(.long q1), (.int p2)] maxLocals)) t := J119
  obtain ⟨_, _, ⟨T121, L121, k121, n121⟩, -, X121, ⟨Lc121, hQ121, l121, y121, z121⟩, st121⟩ := Jvm.LawKit.callS X115 hx (y := (⟨"com/example/wisteria/wisteria/value/TextValueCharacterCountBeforeNulPinLaw", "absorbed", "([BIIZ)Z"⟩ : MethodName)) hown (mvT hZ (hw _ (List.mem_of_getElem? (i := 6) rfl))) (mvT hZ (hw _ (List.mem_of_getElem? (i := 7) rfl))) (mvT hZ (hw _ (List.mem_of_getElem? (i := 4) rfl))) (mvT hZ (hw _ (List.mem_of_getElem? (i := 8) rfl))) (by decide) (backOf (W := 0) (rm2 l Z a0 hw [] b2 cl42 ff 3 A s2_ h42 n0 Z44 Aw42 L (by decide) hA) hZ (hw _ (List.mem_of_getElem? (i := 8) rfl)) (hw _ (List.mem_of_getElem? (i := 4) rfl)) (by decide) (by decide)) (g := (mkF m 234 #[.val (.long q1), .second, .val (.int p2), .val (.ref b2), .val (.int (Int32.ofNat A)), .val (.int (Int32.ofNat B)), .val (.int (Int32.ofNat E8)), .val (.int (own_b2i s0_)), .val (.int (own_b2i s1_)), .val (.int (own_b2i s2_)), .unset, .unset, .unset, .unset, .unset, .unset, .unset] [(.int (own_b2i s2_)), (.int (Int32.ofNat A)), (.int (Int32.ofNat 3)), (.ref b2)])) rfl (by rw [hml]; rfl) (argsL := [(.ref b2), (.int (Int32.ofNat 3)), (.int (Int32.ofNat A)), (.int (own_b2i s2_))]) (rest := []) (lenOf pd_4 rfl) rfl (by show 2 * 0 + _ ≤ _; exact Nat.le_of_eq rfl) (hb hby at_234) (fun _ _ => ⟨rfl, e115, (by decide : 1 + 0 ≤ _), (by decide : 8 + 0 ≤ _)⟩)
  dsimp only [Pt.U, Pt.locs, Pt.cells, Pt.slots] at X121 l121 y121 z121 st121 hQ121
  subst y121 z121
  obtain ⟨rfl, Nq121, e121⟩ := hQ121
  have N122 : Fr n0 L121 := by rw [l121]; exact Fr.app N116 Nq121
  have J123 : ∀ t, Steps p.tables e below (T121.setTop (mkF m 237 #[.val (.long q1), .second, .val (.int p2), .val (.ref b2), .val (.int (Int32.ofNat A)), .val (.int (Int32.ofNat B)), .val (.int (Int32.ofNat E8)), .val (.int (own_b2i s0_)), .val (.int (own_b2i s1_)), .val (.int (own_b2i s2_)), .unset, .unset, .unset, .unset, .unset, .unset, .unset] [(.int (own_b2i (own_abs ff 3 A s2_)))])) t → Steps p.tables e below (s₁.setTop (entryFrame m #[(.long q1), (.int p2)] maxLocals)) t := fun t k => J120 t (st121 t k)
  obtain ⟨s3_, hs3⟩ : ∃ z : Bool, z = own_abs ff 3 A s2_ := ⟨_, rfl⟩
  have qs3 : s3_ = own_s ff A 3 := by rw [hs3, qs2]; rfl
  have J124 : ∀ t, Steps p.tables e below (T121.setTop (mkF m 237 #[.val (.long q1), .second, .val (.int p2), .val (.ref b2), .val (.int (Int32.ofNat A)), .val (.int (Int32.ofNat B)), .val (.int (Int32.ofNat E8)), .val (.int (own_b2i s0_)), .val (.int (own_b2i s1_)), .val (.int (own_b2i s2_)), .unset, .unset, .unset, .unset, .unset, .unset, .unset] [(.int (own_b2i s3_))])) t → Steps p.tables e below (s₁.setTop (entryFrame m #[(.long q1), (.int p2)] maxLocals)) t := fun t k => J123 t (by rw [hs3] at k; exact k)
  have J125 : ∀ t, Steps p.tables e below (T121.setTop (mkF m 245 #[.val (.long q1), .second, .val (.int p2), .val (.ref b2), .val (.int (Int32.ofNat A)), .val (.int (Int32.ofNat B)), .val (.int (Int32.ofNat E8)), .val (.int (own_b2i s0_)), .val (.int (own_b2i s1_)), .val (.int (own_b2i s2_)), .val (.int (own_b2i s3_)), .unset, .unset, .unset, .unset, .unset, .unset] [(.int (own_b2i s3_)), (.int (Int32.ofNat A)), (.int (4 : Int32)), (.ref b2)])) t → Steps p.tables e below (s₁.setTop (entryFrame m #[(.long q1), (.int p2)] maxLocals)) t := fun t k => J124 t (by
      show Steps p.tables e below (T121.setTop (mkF m 237 #[.val (.long q1), .second, .val (.int p2), .val (.ref b2), .val (.int (Int32.ofNat A)), .val (.int (Int32.ofNat B)), .val (.int (Int32.ofNat E8)), .val (.int (own_b2i s0_)), .val (.int (own_b2i s1_)), .val (.int (own_b2i s2_)), .unset, .unset, .unset, .unset, .unset, .unset, .unset] [(.int (own_b2i s3_))])) _
      refine XS.istore X121.here hx rfl (hb hby at_237) rfl (l' := #[.val (.long q1), .second, .val (.int p2), .val (.ref b2), .val (.int (Int32.ofNat A)), .val (.int (Int32.ofNat B)), .val (.int (Int32.ofNat E8)), .val (.int (own_b2i s0_)), .val (.int (own_b2i s1_)), .val (.int (own_b2i s2_)), .val (.int (own_b2i s3_)), .unset, .unset, .unset, .unset, .unset, .unset]) rfl ?_
      show Steps p.tables e below (T121.setTop (mkF m 239 #[.val (.long q1), .second, .val (.int p2), .val (.ref b2), .val (.int (Int32.ofNat A)), .val (.int (Int32.ofNat B)), .val (.int (Int32.ofNat E8)), .val (.int (own_b2i s0_)), .val (.int (own_b2i s1_)), .val (.int (own_b2i s2_)), .val (.int (own_b2i s3_)), .unset, .unset, .unset, .unset, .unset, .unset] [])) _
      refine XS.aloadN X121.here hx rfl (hb hby at_239) rfl rfl ?_
      show Steps p.tables e below (T121.setTop (mkF m 240 #[.val (.long q1), .second, .val (.int p2), .val (.ref b2), .val (.int (Int32.ofNat A)), .val (.int (Int32.ofNat B)), .val (.int (Int32.ofNat E8)), .val (.int (own_b2i s0_)), .val (.int (own_b2i s1_)), .val (.int (own_b2i s2_)), .val (.int (own_b2i s3_)), .unset, .unset, .unset, .unset, .unset, .unset] [(.ref b2)])) _
      refine XS.iconst X121.here hx rfl (hb hby at_240) ?_
      show Steps p.tables e below (T121.setTop (mkF m 241 #[.val (.long q1), .second, .val (.int p2), .val (.ref b2), .val (.int (Int32.ofNat A)), .val (.int (Int32.ofNat B)), .val (.int (Int32.ofNat E8)), .val (.int (own_b2i s0_)), .val (.int (own_b2i s1_)), .val (.int (own_b2i s2_)), .val (.int (own_b2i s3_)), .unset, .unset, .unset, .unset, .unset, .unset] [(.int (4 : Int32)), (.ref b2)])) _
      refine XS.iload X121.here hx rfl (hb hby at_241) rfl ?_
      show Steps p.tables e below (T121.setTop (mkF m 243 #[.val (.long q1), .second, .val (.int p2), .val (.ref b2), .val (.int (Int32.ofNat A)), .val (.int (Int32.ofNat B)), .val (.int (Int32.ofNat E8)), .val (.int (own_b2i s0_)), .val (.int (own_b2i s1_)), .val (.int (own_b2i s2_)), .val (.int (own_b2i s3_)), .unset, .unset, .unset, .unset, .unset, .unset] [(.int (Int32.ofNat A)), (.int (4 : Int32)), (.ref b2)])) _
      refine XS.iload X121.here hx rfl (hb hby at_243) rfl ?_
      exact k)
  have J126 : ∀ t, Steps p.tables e below (T121.setTop (mkF m 245 #[.val (.long q1), .second, .val (.int p2), .val (.ref b2), .val (.int (Int32.ofNat A)), .val (.int (Int32.ofNat B)), .val (.int (Int32.ofNat E8)), .val (.int (own_b2i s0_)), .val (.int (own_b2i s1_)), .val (.int (own_b2i s2_)), .val (.int (own_b2i s3_)), .unset, .unset, .unset, .unset, .unset, .unset] [(.int (own_b2i s3_)), (.int (Int32.ofNat A)), (.int (Int32.ofNat 4)), (.ref b2)])) t → Steps p.tables e below (s₁.setTop (entryFrame m #[(.long q1), (.int p2)] maxLocals)) t := J125
  obtain ⟨_, _, ⟨T127, L127, k127, n127⟩, -, X127, ⟨Lc127, hQ127, l127, y127, z127⟩, st127⟩ := Jvm.LawKit.callS X121 hx (y := (⟨"com/example/wisteria/wisteria/value/TextValueCharacterCountBeforeNulPinLaw", "absorbed", "([BIIZ)Z"⟩ : MethodName)) hown (mvT hZ (hw _ (List.mem_of_getElem? (i := 6) rfl))) (mvT hZ (hw _ (List.mem_of_getElem? (i := 7) rfl))) (mvT hZ (hw _ (List.mem_of_getElem? (i := 4) rfl))) (mvT hZ (hw _ (List.mem_of_getElem? (i := 8) rfl))) (by decide) (backOf (W := 0) (rm2 l Z a0 hw [] b2 cl42 ff 4 A s3_ h42 n0 Z44 Aw42 L (by decide) hA) hZ (hw _ (List.mem_of_getElem? (i := 8) rfl)) (hw _ (List.mem_of_getElem? (i := 4) rfl)) (by decide) (by decide)) (g := (mkF m 245 #[.val (.long q1), .second, .val (.int p2), .val (.ref b2), .val (.int (Int32.ofNat A)), .val (.int (Int32.ofNat B)), .val (.int (Int32.ofNat E8)), .val (.int (own_b2i s0_)), .val (.int (own_b2i s1_)), .val (.int (own_b2i s2_)), .val (.int (own_b2i s3_)), .unset, .unset, .unset, .unset, .unset, .unset] [(.int (own_b2i s3_)), (.int (Int32.ofNat A)), (.int (Int32.ofNat 4)), (.ref b2)])) rfl (by rw [hml]; rfl) (argsL := [(.ref b2), (.int (Int32.ofNat 4)), (.int (Int32.ofNat A)), (.int (own_b2i s3_))]) (rest := []) (lenOf pd_4 rfl) rfl (by show 2 * 0 + _ ≤ _; exact Nat.le_of_eq rfl) (hb hby at_245) (fun _ _ => ⟨rfl, e121, (by decide : 1 + 0 ≤ _), (by decide : 8 + 0 ≤ _)⟩)
  dsimp only [Pt.U, Pt.locs, Pt.cells, Pt.slots] at X127 l127 y127 z127 st127 hQ127
  subst y127 z127
  obtain ⟨rfl, Nq127, e127⟩ := hQ127
  have N128 : Fr n0 L127 := by rw [l127]; exact Fr.app N122 Nq127
  have J129 : ∀ t, Steps p.tables e below (T127.setTop (mkF m 248 #[.val (.long q1), .second, .val (.int p2), .val (.ref b2), .val (.int (Int32.ofNat A)), .val (.int (Int32.ofNat B)), .val (.int (Int32.ofNat E8)), .val (.int (own_b2i s0_)), .val (.int (own_b2i s1_)), .val (.int (own_b2i s2_)), .val (.int (own_b2i s3_)), .unset, .unset, .unset, .unset, .unset, .unset] [(.int (own_b2i (own_abs ff 4 A s3_)))])) t → Steps p.tables e below (s₁.setTop (entryFrame m #[(.long q1), (.int p2)] maxLocals)) t := fun t k => J126 t (st127 t k)
  obtain ⟨s4_, hs4⟩ : ∃ z : Bool, z = own_abs ff 4 A s3_ := ⟨_, rfl⟩
  have qs4 : s4_ = own_s ff A 4 := by rw [hs4, qs3]; rfl
  have J130 : ∀ t, Steps p.tables e below (T127.setTop (mkF m 248 #[.val (.long q1), .second, .val (.int p2), .val (.ref b2), .val (.int (Int32.ofNat A)), .val (.int (Int32.ofNat B)), .val (.int (Int32.ofNat E8)), .val (.int (own_b2i s0_)), .val (.int (own_b2i s1_)), .val (.int (own_b2i s2_)), .val (.int (own_b2i s3_)), .unset, .unset, .unset, .unset, .unset, .unset] [(.int (own_b2i s4_))])) t → Steps p.tables e below (s₁.setTop (entryFrame m #[(.long q1), (.int p2)] maxLocals)) t := fun t k => J129 t (by rw [hs4] at k; exact k)
  have J131 : ∀ t, Steps p.tables e below (T127.setTop (mkF m 256 #[.val (.long q1), .second, .val (.int p2), .val (.ref b2), .val (.int (Int32.ofNat A)), .val (.int (Int32.ofNat B)), .val (.int (Int32.ofNat E8)), .val (.int (own_b2i s0_)), .val (.int (own_b2i s1_)), .val (.int (own_b2i s2_)), .val (.int (own_b2i s3_)), .val (.int (own_b2i s4_)), .unset, .unset, .unset, .unset, .unset] [(.int (own_b2i s4_)), (.int (Int32.ofNat A)), (.int (5 : Int32)), (.ref b2)])) t → Steps p.tables e below (s₁.setTop (entryFrame m #[(.long q1), (.int p2)] maxLocals)) t := fun t k => J130 t (by
      show Steps p.tables e below (T127.setTop (mkF m 248 #[.val (.long q1), .second, .val (.int p2), .val (.ref b2), .val (.int (Int32.ofNat A)), .val (.int (Int32.ofNat B)), .val (.int (Int32.ofNat E8)), .val (.int (own_b2i s0_)), .val (.int (own_b2i s1_)), .val (.int (own_b2i s2_)), .val (.int (own_b2i s3_)), .unset, .unset, .unset, .unset, .unset, .unset] [(.int (own_b2i s4_))])) _
      refine XS.istore X127.here hx rfl (hb hby at_248) rfl (l' := #[.val (.long q1), .second, .val (.int p2), .val (.ref b2), .val (.int (Int32.ofNat A)), .val (.int (Int32.ofNat B)), .val (.int (Int32.ofNat E8)), .val (.int (own_b2i s0_)), .val (.int (own_b2i s1_)), .val (.int (own_b2i s2_)), .val (.int (own_b2i s3_)), .val (.int (own_b2i s4_)), .unset, .unset, .unset, .unset, .unset]) rfl ?_
      show Steps p.tables e below (T127.setTop (mkF m 250 #[.val (.long q1), .second, .val (.int p2), .val (.ref b2), .val (.int (Int32.ofNat A)), .val (.int (Int32.ofNat B)), .val (.int (Int32.ofNat E8)), .val (.int (own_b2i s0_)), .val (.int (own_b2i s1_)), .val (.int (own_b2i s2_)), .val (.int (own_b2i s3_)), .val (.int (own_b2i s4_)), .unset, .unset, .unset, .unset, .unset] [])) _
      refine XS.aloadN X127.here hx rfl (hb hby at_250) rfl rfl ?_
      show Steps p.tables e below (T127.setTop (mkF m 251 #[.val (.long q1), .second, .val (.int p2), .val (.ref b2), .val (.int (Int32.ofNat A)), .val (.int (Int32.ofNat B)), .val (.int (Int32.ofNat E8)), .val (.int (own_b2i s0_)), .val (.int (own_b2i s1_)), .val (.int (own_b2i s2_)), .val (.int (own_b2i s3_)), .val (.int (own_b2i s4_)), .unset, .unset, .unset, .unset, .unset] [(.ref b2)])) _
      refine XS.iconst X127.here hx rfl (hb hby at_251) ?_
      show Steps p.tables e below (T127.setTop (mkF m 252 #[.val (.long q1), .second, .val (.int p2), .val (.ref b2), .val (.int (Int32.ofNat A)), .val (.int (Int32.ofNat B)), .val (.int (Int32.ofNat E8)), .val (.int (own_b2i s0_)), .val (.int (own_b2i s1_)), .val (.int (own_b2i s2_)), .val (.int (own_b2i s3_)), .val (.int (own_b2i s4_)), .unset, .unset, .unset, .unset, .unset] [(.int (5 : Int32)), (.ref b2)])) _
      refine XS.iload X127.here hx rfl (hb hby at_252) rfl ?_
      show Steps p.tables e below (T127.setTop (mkF m 254 #[.val (.long q1), .second, .val (.int p2), .val (.ref b2), .val (.int (Int32.ofNat A)), .val (.int (Int32.ofNat B)), .val (.int (Int32.ofNat E8)), .val (.int (own_b2i s0_)), .val (.int (own_b2i s1_)), .val (.int (own_b2i s2_)), .val (.int (own_b2i s3_)), .val (.int (own_b2i s4_)), .unset, .unset, .unset, .unset, .unset] [(.int (Int32.ofNat A)), (.int (5 : Int32)), (.ref b2)])) _
      refine XS.iload X127.here hx rfl (hb hby at_254) rfl ?_
      exact k)
  have J132 : ∀ t, Steps p.tables e below (T127.setTop (mkF m 256 #[.val (.long q1), .second, .val (.int p2), .val (.ref b2), .val (.int (Int32.ofNat A)), .val (.int (Int32.ofNat B)), .val (.int (Int32.ofNat E8)), .val (.int (own_b2i s0_)), .val (.int (own_b2i s1_)), .val (.int (own_b2i s2_)), .val (.int (own_b2i s3_)), .val (.int (own_b2i s4_)), .unset, .unset, .unset, .unset, .unset] [(.int (own_b2i s4_)), (.int (Int32.ofNat A)), (.int (Int32.ofNat 5)), (.ref b2)])) t → Steps p.tables e below (s₁.setTop (entryFrame m #[(.long q1), (.int p2)] maxLocals)) t := J131
  obtain ⟨_, _, ⟨T133, L133, k133, n133⟩, -, X133, ⟨Lc133, hQ133, l133, y133, z133⟩, st133⟩ := Jvm.LawKit.callS X127 hx (y := (⟨"com/example/wisteria/wisteria/value/TextValueCharacterCountBeforeNulPinLaw", "absorbed", "([BIIZ)Z"⟩ : MethodName)) hown (mvT hZ (hw _ (List.mem_of_getElem? (i := 6) rfl))) (mvT hZ (hw _ (List.mem_of_getElem? (i := 7) rfl))) (mvT hZ (hw _ (List.mem_of_getElem? (i := 4) rfl))) (mvT hZ (hw _ (List.mem_of_getElem? (i := 8) rfl))) (by decide) (backOf (W := 0) (rm2 l Z a0 hw [] b2 cl42 ff 5 A s4_ h42 n0 Z44 Aw42 L (by decide) hA) hZ (hw _ (List.mem_of_getElem? (i := 8) rfl)) (hw _ (List.mem_of_getElem? (i := 4) rfl)) (by decide) (by decide)) (g := (mkF m 256 #[.val (.long q1), .second, .val (.int p2), .val (.ref b2), .val (.int (Int32.ofNat A)), .val (.int (Int32.ofNat B)), .val (.int (Int32.ofNat E8)), .val (.int (own_b2i s0_)), .val (.int (own_b2i s1_)), .val (.int (own_b2i s2_)), .val (.int (own_b2i s3_)), .val (.int (own_b2i s4_)), .unset, .unset, .unset, .unset, .unset] [(.int (own_b2i s4_)), (.int (Int32.ofNat A)), (.int (Int32.ofNat 5)), (.ref b2)])) rfl (by rw [hml]; rfl) (argsL := [(.ref b2), (.int (Int32.ofNat 5)), (.int (Int32.ofNat A)), (.int (own_b2i s4_))]) (rest := []) (lenOf pd_4 rfl) rfl (by show 2 * 0 + _ ≤ _; exact Nat.le_of_eq rfl) (hb hby at_256) (fun _ _ => ⟨rfl, e127, (by decide : 1 + 0 ≤ _), (by decide : 8 + 0 ≤ _)⟩)
  dsimp only [Pt.U, Pt.locs, Pt.cells, Pt.slots] at X133 l133 y133 z133 st133 hQ133
  subst y133 z133
  obtain ⟨rfl, Nq133, e133⟩ := hQ133
  have N134 : Fr n0 L133 := by rw [l133]; exact Fr.app N128 Nq133
  have J135 : ∀ t, Steps p.tables e below (T133.setTop (mkF m 259 #[.val (.long q1), .second, .val (.int p2), .val (.ref b2), .val (.int (Int32.ofNat A)), .val (.int (Int32.ofNat B)), .val (.int (Int32.ofNat E8)), .val (.int (own_b2i s0_)), .val (.int (own_b2i s1_)), .val (.int (own_b2i s2_)), .val (.int (own_b2i s3_)), .val (.int (own_b2i s4_)), .unset, .unset, .unset, .unset, .unset] [(.int (own_b2i (own_abs ff 5 A s4_)))])) t → Steps p.tables e below (s₁.setTop (entryFrame m #[(.long q1), (.int p2)] maxLocals)) t := fun t k => J132 t (st133 t k)
  obtain ⟨s5_, hs5⟩ : ∃ z : Bool, z = own_abs ff 5 A s4_ := ⟨_, rfl⟩
  have qs5 : s5_ = own_s ff A 5 := by rw [hs5, qs4]; rfl
  have J136 : ∀ t, Steps p.tables e below (T133.setTop (mkF m 259 #[.val (.long q1), .second, .val (.int p2), .val (.ref b2), .val (.int (Int32.ofNat A)), .val (.int (Int32.ofNat B)), .val (.int (Int32.ofNat E8)), .val (.int (own_b2i s0_)), .val (.int (own_b2i s1_)), .val (.int (own_b2i s2_)), .val (.int (own_b2i s3_)), .val (.int (own_b2i s4_)), .unset, .unset, .unset, .unset, .unset] [(.int (own_b2i s5_))])) t → Steps p.tables e below (s₁.setTop (entryFrame m #[(.long q1), (.int p2)] maxLocals)) t := fun t k => J135 t (by rw [hs5] at k; exact k)
  have J137 : ∀ t, Steps p.tables e below (T133.setTop (mkF m 268 #[.val (.long q1), .second, .val (.int p2), .val (.ref b2), .val (.int (Int32.ofNat A)), .val (.int (Int32.ofNat B)), .val (.int (Int32.ofNat E8)), .val (.int (own_b2i s0_)), .val (.int (own_b2i s1_)), .val (.int (own_b2i s2_)), .val (.int (own_b2i s3_)), .val (.int (own_b2i s4_)), .val (.int (own_b2i s5_)), .unset, .unset, .unset, .unset] [(.int (own_b2i s5_)), (.int (Int32.ofNat A)), (.int (6 : Int32)), (.ref b2)])) t → Steps p.tables e below (s₁.setTop (entryFrame m #[(.long q1), (.int p2)] maxLocals)) t := fun t k => J136 t (by
      show Steps p.tables e below (T133.setTop (mkF m 259 #[.val (.long q1), .second, .val (.int p2), .val (.ref b2), .val (.int (Int32.ofNat A)), .val (.int (Int32.ofNat B)), .val (.int (Int32.ofNat E8)), .val (.int (own_b2i s0_)), .val (.int (own_b2i s1_)), .val (.int (own_b2i s2_)), .val (.int (own_b2i s3_)), .val (.int (own_b2i s4_)), .unset, .unset, .unset, .unset, .unset] [(.int (own_b2i s5_))])) _
      refine XS.istore X133.here hx rfl (hb hby at_259) rfl (l' := #[.val (.long q1), .second, .val (.int p2), .val (.ref b2), .val (.int (Int32.ofNat A)), .val (.int (Int32.ofNat B)), .val (.int (Int32.ofNat E8)), .val (.int (own_b2i s0_)), .val (.int (own_b2i s1_)), .val (.int (own_b2i s2_)), .val (.int (own_b2i s3_)), .val (.int (own_b2i s4_)), .val (.int (own_b2i s5_)), .unset, .unset, .unset, .unset]) rfl ?_
      show Steps p.tables e below (T133.setTop (mkF m 261 #[.val (.long q1), .second, .val (.int p2), .val (.ref b2), .val (.int (Int32.ofNat A)), .val (.int (Int32.ofNat B)), .val (.int (Int32.ofNat E8)), .val (.int (own_b2i s0_)), .val (.int (own_b2i s1_)), .val (.int (own_b2i s2_)), .val (.int (own_b2i s3_)), .val (.int (own_b2i s4_)), .val (.int (own_b2i s5_)), .unset, .unset, .unset, .unset] [])) _
      refine XS.aloadN X133.here hx rfl (hb hby at_261) rfl rfl ?_
      show Steps p.tables e below (T133.setTop (mkF m 262 #[.val (.long q1), .second, .val (.int p2), .val (.ref b2), .val (.int (Int32.ofNat A)), .val (.int (Int32.ofNat B)), .val (.int (Int32.ofNat E8)), .val (.int (own_b2i s0_)), .val (.int (own_b2i s1_)), .val (.int (own_b2i s2_)), .val (.int (own_b2i s3_)), .val (.int (own_b2i s4_)), .val (.int (own_b2i s5_)), .unset, .unset, .unset, .unset] [(.ref b2)])) _
      refine XS.bipush X133.here hx rfl (hb hby at_262) ?_
      show Steps p.tables e below (T133.setTop (mkF m 264 #[.val (.long q1), .second, .val (.int p2), .val (.ref b2), .val (.int (Int32.ofNat A)), .val (.int (Int32.ofNat B)), .val (.int (Int32.ofNat E8)), .val (.int (own_b2i s0_)), .val (.int (own_b2i s1_)), .val (.int (own_b2i s2_)), .val (.int (own_b2i s3_)), .val (.int (own_b2i s4_)), .val (.int (own_b2i s5_)), .unset, .unset, .unset, .unset] [(.int (6 : Int32)), (.ref b2)])) _
      refine XS.iload X133.here hx rfl (hb hby at_264) rfl ?_
      show Steps p.tables e below (T133.setTop (mkF m 266 #[.val (.long q1), .second, .val (.int p2), .val (.ref b2), .val (.int (Int32.ofNat A)), .val (.int (Int32.ofNat B)), .val (.int (Int32.ofNat E8)), .val (.int (own_b2i s0_)), .val (.int (own_b2i s1_)), .val (.int (own_b2i s2_)), .val (.int (own_b2i s3_)), .val (.int (own_b2i s4_)), .val (.int (own_b2i s5_)), .unset, .unset, .unset, .unset] [(.int (Int32.ofNat A)), (.int (6 : Int32)), (.ref b2)])) _
      refine XS.iload X133.here hx rfl (hb hby at_266) rfl ?_
      exact k)
  have J138 : ∀ t, Steps p.tables e below (T133.setTop (mkF m 268 #[.val (.long q1), .second, .val (.int p2), .val (.ref b2), .val (.int (Int32.ofNat A)), .val (.int (Int32.ofNat B)), .val (.int (Int32.ofNat E8)), .val (.int (own_b2i s0_)), .val (.int (own_b2i s1_)), .val (.int (own_b2i s2_)), .val (.int (own_b2i s3_)), .val (.int (own_b2i s4_)), .val (.int (own_b2i s5_)), .unset, .unset, .unset, .unset] [(.int (own_b2i s5_)), (.int (Int32.ofNat A)), (.int (Int32.ofNat 6)), (.ref b2)])) t → Steps p.tables e below (s₁.setTop (entryFrame m #[(.long q1), (.int p2)] maxLocals)) t := J137
  obtain ⟨_, _, ⟨T139, L139, k139, n139⟩, -, X139, ⟨Lc139, hQ139, l139, y139, z139⟩, st139⟩ := Jvm.LawKit.callS X133 hx (y := (⟨"com/example/wisteria/wisteria/value/TextValueCharacterCountBeforeNulPinLaw", "absorbed", "([BIIZ)Z"⟩ : MethodName)) hown (mvT hZ (hw _ (List.mem_of_getElem? (i := 6) rfl))) (mvT hZ (hw _ (List.mem_of_getElem? (i := 7) rfl))) (mvT hZ (hw _ (List.mem_of_getElem? (i := 4) rfl))) (mvT hZ (hw _ (List.mem_of_getElem? (i := 8) rfl))) (by decide) (backOf (W := 0) (rm2 l Z a0 hw [] b2 cl42 ff 6 A s5_ h42 n0 Z44 Aw42 L (by decide) hA) hZ (hw _ (List.mem_of_getElem? (i := 8) rfl)) (hw _ (List.mem_of_getElem? (i := 4) rfl)) (by decide) (by decide)) (g := (mkF m 268 #[.val (.long q1), .second, .val (.int p2), .val (.ref b2), .val (.int (Int32.ofNat A)), .val (.int (Int32.ofNat B)), .val (.int (Int32.ofNat E8)), .val (.int (own_b2i s0_)), .val (.int (own_b2i s1_)), .val (.int (own_b2i s2_)), .val (.int (own_b2i s3_)), .val (.int (own_b2i s4_)), .val (.int (own_b2i s5_)), .unset, .unset, .unset, .unset] [(.int (own_b2i s5_)), (.int (Int32.ofNat A)), (.int (Int32.ofNat 6)), (.ref b2)])) rfl (by rw [hml]; rfl) (argsL := [(.ref b2), (.int (Int32.ofNat 6)), (.int (Int32.ofNat A)), (.int (own_b2i s5_))]) (rest := []) (lenOf pd_4 rfl) rfl (by show 2 * 0 + _ ≤ _; exact Nat.le_of_eq rfl) (hb hby at_268) (fun _ _ => ⟨rfl, e133, (by decide : 1 + 0 ≤ _), (by decide : 8 + 0 ≤ _)⟩)
  dsimp only [Pt.U, Pt.locs, Pt.cells, Pt.slots] at X139 l139 y139 z139 st139 hQ139
  subst y139 z139
  obtain ⟨rfl, Nq139, e139⟩ := hQ139
  have N140 : Fr n0 L139 := by rw [l139]; exact Fr.app N134 Nq139
  have J141 : ∀ t, Steps p.tables e below (T139.setTop (mkF m 271 #[.val (.long q1), .second, .val (.int p2), .val (.ref b2), .val (.int (Int32.ofNat A)), .val (.int (Int32.ofNat B)), .val (.int (Int32.ofNat E8)), .val (.int (own_b2i s0_)), .val (.int (own_b2i s1_)), .val (.int (own_b2i s2_)), .val (.int (own_b2i s3_)), .val (.int (own_b2i s4_)), .val (.int (own_b2i s5_)), .unset, .unset, .unset, .unset] [(.int (own_b2i (own_abs ff 6 A s5_)))])) t → Steps p.tables e below (s₁.setTop (entryFrame m #[(.long q1), (.int p2)] maxLocals)) t := fun t k => J138 t (st139 t k)
  obtain ⟨s6_, hs6⟩ : ∃ z : Bool, z = own_abs ff 6 A s5_ := ⟨_, rfl⟩
  have qs6 : s6_ = own_s ff A 6 := by rw [hs6, qs5]; rfl
  have J142 : ∀ t, Steps p.tables e below (T139.setTop (mkF m 271 #[.val (.long q1), .second, .val (.int p2), .val (.ref b2), .val (.int (Int32.ofNat A)), .val (.int (Int32.ofNat B)), .val (.int (Int32.ofNat E8)), .val (.int (own_b2i s0_)), .val (.int (own_b2i s1_)), .val (.int (own_b2i s2_)), .val (.int (own_b2i s3_)), .val (.int (own_b2i s4_)), .val (.int (own_b2i s5_)), .unset, .unset, .unset, .unset] [(.int (own_b2i s6_))])) t → Steps p.tables e below (s₁.setTop (entryFrame m #[(.long q1), (.int p2)] maxLocals)) t := fun t k => J141 t (by rw [hs6] at k; exact k)
  have J143 : ∀ t, Steps p.tables e below (T139.setTop (mkF m 280 #[.val (.long q1), .second, .val (.int p2), .val (.ref b2), .val (.int (Int32.ofNat A)), .val (.int (Int32.ofNat B)), .val (.int (Int32.ofNat E8)), .val (.int (own_b2i s0_)), .val (.int (own_b2i s1_)), .val (.int (own_b2i s2_)), .val (.int (own_b2i s3_)), .val (.int (own_b2i s4_)), .val (.int (own_b2i s5_)), .val (.int (own_b2i s6_)), .unset, .unset, .unset] [(.int (own_b2i s6_)), (.int (Int32.ofNat A)), (.int (7 : Int32)), (.ref b2)])) t → Steps p.tables e below (s₁.setTop (entryFrame m #[(.long q1), (.int p2)] maxLocals)) t := fun t k => J142 t (by
      show Steps p.tables e below (T139.setTop (mkF m 271 #[.val (.long q1), .second, .val (.int p2), .val (.ref b2), .val (.int (Int32.ofNat A)), .val (.int (Int32.ofNat B)), .val (.int (Int32.ofNat E8)), .val (.int (own_b2i s0_)), .val (.int (own_b2i s1_)), .val (.int (own_b2i s2_)), .val (.int (own_b2i s3_)), .val (.int (own_b2i s4_)), .val (.int (own_b2i s5_)), .unset, .unset, .unset, .unset] [(.int (own_b2i s6_))])) _
      refine XS.istore X139.here hx rfl (hb hby at_271) rfl (l' := #[.val (.long q1), .second, .val (.int p2), .val (.ref b2), .val (.int (Int32.ofNat A)), .val (.int (Int32.ofNat B)), .val (.int (Int32.ofNat E8)), .val (.int (own_b2i s0_)), .val (.int (own_b2i s1_)), .val (.int (own_b2i s2_)), .val (.int (own_b2i s3_)), .val (.int (own_b2i s4_)), .val (.int (own_b2i s5_)), .val (.int (own_b2i s6_)), .unset, .unset, .unset]) rfl ?_
      show Steps p.tables e below (T139.setTop (mkF m 273 #[.val (.long q1), .second, .val (.int p2), .val (.ref b2), .val (.int (Int32.ofNat A)), .val (.int (Int32.ofNat B)), .val (.int (Int32.ofNat E8)), .val (.int (own_b2i s0_)), .val (.int (own_b2i s1_)), .val (.int (own_b2i s2_)), .val (.int (own_b2i s3_)), .val (.int (own_b2i s4_)), .val (.int (own_b2i s5_)), .val (.int (own_b2i s6_)), .unset, .unset, .unset] [])) _
      refine XS.aloadN X139.here hx rfl (hb hby at_273) rfl rfl ?_
      show Steps p.tables e below (T139.setTop (mkF m 274 #[.val (.long q1), .second, .val (.int p2), .val (.ref b2), .val (.int (Int32.ofNat A)), .val (.int (Int32.ofNat B)), .val (.int (Int32.ofNat E8)), .val (.int (own_b2i s0_)), .val (.int (own_b2i s1_)), .val (.int (own_b2i s2_)), .val (.int (own_b2i s3_)), .val (.int (own_b2i s4_)), .val (.int (own_b2i s5_)), .val (.int (own_b2i s6_)), .unset, .unset, .unset] [(.ref b2)])) _
      refine XS.bipush X139.here hx rfl (hb hby at_274) ?_
      show Steps p.tables e below (T139.setTop (mkF m 276 #[.val (.long q1), .second, .val (.int p2), .val (.ref b2), .val (.int (Int32.ofNat A)), .val (.int (Int32.ofNat B)), .val (.int (Int32.ofNat E8)), .val (.int (own_b2i s0_)), .val (.int (own_b2i s1_)), .val (.int (own_b2i s2_)), .val (.int (own_b2i s3_)), .val (.int (own_b2i s4_)), .val (.int (own_b2i s5_)), .val (.int (own_b2i s6_)), .unset, .unset, .unset] [(.int (7 : Int32)), (.ref b2)])) _
      refine XS.iload X139.here hx rfl (hb hby at_276) rfl ?_
      show Steps p.tables e below (T139.setTop (mkF m 278 #[.val (.long q1), .second, .val (.int p2), .val (.ref b2), .val (.int (Int32.ofNat A)), .val (.int (Int32.ofNat B)), .val (.int (Int32.ofNat E8)), .val (.int (own_b2i s0_)), .val (.int (own_b2i s1_)), .val (.int (own_b2i s2_)), .val (.int (own_b2i s3_)), .val (.int (own_b2i s4_)), .val (.int (own_b2i s5_)), .val (.int (own_b2i s6_)), .unset, .unset, .unset] [(.int (Int32.ofNat A)), (.int (7 : Int32)), (.ref b2)])) _
      refine XS.iload X139.here hx rfl (hb hby at_278) rfl ?_
      exact k)
  have J144 : ∀ t, Steps p.tables e below (T139.setTop (mkF m 280 #[.val (.long q1), .second, .val (.int p2), .val (.ref b2), .val (.int (Int32.ofNat A)), .val (.int (Int32.ofNat B)), .val (.int (Int32.ofNat E8)), .val (.int (own_b2i s0_)), .val (.int (own_b2i s1_)), .val (.int (own_b2i s2_)), .val (.int (own_b2i s3_)), .val (.int (own_b2i s4_)), .val (.int (own_b2i s5_)), .val (.int (own_b2i s6_)), .unset, .unset, .unset] [(.int (own_b2i s6_)), (.int (Int32.ofNat A)), (.int (Int32.ofNat 7)), (.ref b2)])) t → Steps p.tables e below (s₁.setTop (entryFrame m #[(.long q1), (.int p2)] maxLocals)) t := J143
  obtain ⟨_, _, ⟨T145, L145, k145, n145⟩, -, X145, ⟨Lc145, hQ145, l145, y145, z145⟩, st145⟩ := Jvm.LawKit.callS X139 hx (y := (⟨"com/example/wisteria/wisteria/value/TextValueCharacterCountBeforeNulPinLaw", "absorbed", "([BIIZ)Z"⟩ : MethodName)) hown (mvT hZ (hw _ (List.mem_of_getElem? (i := 6) rfl))) (mvT hZ (hw _ (List.mem_of_getElem? (i := 7) rfl))) (mvT hZ (hw _ (List.mem_of_getElem? (i := 4) rfl))) (mvT hZ (hw _ (List.mem_of_getElem? (i := 8) rfl))) (by decide) (backOf (W := 0) (rm2 l Z a0 hw [] b2 cl42 ff 7 A s6_ h42 n0 Z44 Aw42 L (by decide) hA) hZ (hw _ (List.mem_of_getElem? (i := 8) rfl)) (hw _ (List.mem_of_getElem? (i := 4) rfl)) (by decide) (by decide)) (g := (mkF m 280 #[.val (.long q1), .second, .val (.int p2), .val (.ref b2), .val (.int (Int32.ofNat A)), .val (.int (Int32.ofNat B)), .val (.int (Int32.ofNat E8)), .val (.int (own_b2i s0_)), .val (.int (own_b2i s1_)), .val (.int (own_b2i s2_)), .val (.int (own_b2i s3_)), .val (.int (own_b2i s4_)), .val (.int (own_b2i s5_)), .val (.int (own_b2i s6_)), .unset, .unset, .unset] [(.int (own_b2i s6_)), (.int (Int32.ofNat A)), (.int (Int32.ofNat 7)), (.ref b2)])) rfl (by rw [hml]; rfl) (argsL := [(.ref b2), (.int (Int32.ofNat 7)), (.int (Int32.ofNat A)), (.int (own_b2i s6_))]) (rest := []) (lenOf pd_4 rfl) rfl (by show 2 * 0 + _ ≤ _; exact Nat.le_of_eq rfl) (hb hby at_280) (fun _ _ => ⟨rfl, e139, (by decide : 1 + 0 ≤ _), (by decide : 8 + 0 ≤ _)⟩)
  dsimp only [Pt.U, Pt.locs, Pt.cells, Pt.slots] at X145 l145 y145 z145 st145 hQ145
  subst y145 z145
  obtain ⟨rfl, Nq145, e145⟩ := hQ145
  have N146 : Fr n0 L145 := by rw [l145]; exact Fr.app N140 Nq145
  have J147 : ∀ t, Steps p.tables e below (T145.setTop (mkF m 283 #[.val (.long q1), .second, .val (.int p2), .val (.ref b2), .val (.int (Int32.ofNat A)), .val (.int (Int32.ofNat B)), .val (.int (Int32.ofNat E8)), .val (.int (own_b2i s0_)), .val (.int (own_b2i s1_)), .val (.int (own_b2i s2_)), .val (.int (own_b2i s3_)), .val (.int (own_b2i s4_)), .val (.int (own_b2i s5_)), .val (.int (own_b2i s6_)), .unset, .unset, .unset] [(.int (own_b2i (own_abs ff 7 A s6_)))])) t → Steps p.tables e below (s₁.setTop (entryFrame m #[(.long q1), (.int p2)] maxLocals)) t := fun t k => J144 t (st145 t k)
  obtain ⟨s7_, hs7⟩ : ∃ z : Bool, z = own_abs ff 7 A s6_ := ⟨_, rfl⟩
  have qs7 : s7_ = own_s ff A 7 := by rw [hs7, qs6]; rfl
  have J148 : ∀ t, Steps p.tables e below (T145.setTop (mkF m 283 #[.val (.long q1), .second, .val (.int p2), .val (.ref b2), .val (.int (Int32.ofNat A)), .val (.int (Int32.ofNat B)), .val (.int (Int32.ofNat E8)), .val (.int (own_b2i s0_)), .val (.int (own_b2i s1_)), .val (.int (own_b2i s2_)), .val (.int (own_b2i s3_)), .val (.int (own_b2i s4_)), .val (.int (own_b2i s5_)), .val (.int (own_b2i s6_)), .unset, .unset, .unset] [(.int (own_b2i s7_))])) t → Steps p.tables e below (s₁.setTop (entryFrame m #[(.long q1), (.int p2)] maxLocals)) t := fun t k => J147 t (by rw [hs7] at k; exact k)
  have J149 : ∀ t, Steps p.tables e below (T145.setTop (mkF m 292 #[.val (.long q1), .second, .val (.int p2), .val (.ref b2), .val (.int (Int32.ofNat A)), .val (.int (Int32.ofNat B)), .val (.int (Int32.ofNat E8)), .val (.int (own_b2i s0_)), .val (.int (own_b2i s1_)), .val (.int (own_b2i s2_)), .val (.int (own_b2i s3_)), .val (.int (own_b2i s4_)), .val (.int (own_b2i s5_)), .val (.int (own_b2i s6_)), .val (.int (own_b2i s7_)), .unset, .unset] [(.int (own_b2i s0_)), (.int (Int32.ofNat E8)), (.int (Int32.ofNat A)), (.int (0 : Int32))])) t → Steps p.tables e below (s₁.setTop (entryFrame m #[(.long q1), (.int p2)] maxLocals)) t := fun t k => J148 t (by
      show Steps p.tables e below (T145.setTop (mkF m 283 #[.val (.long q1), .second, .val (.int p2), .val (.ref b2), .val (.int (Int32.ofNat A)), .val (.int (Int32.ofNat B)), .val (.int (Int32.ofNat E8)), .val (.int (own_b2i s0_)), .val (.int (own_b2i s1_)), .val (.int (own_b2i s2_)), .val (.int (own_b2i s3_)), .val (.int (own_b2i s4_)), .val (.int (own_b2i s5_)), .val (.int (own_b2i s6_)), .unset, .unset, .unset] [(.int (own_b2i s7_))])) _
      refine XS.istore X145.here hx rfl (hb hby at_283) rfl (l' := #[.val (.long q1), .second, .val (.int p2), .val (.ref b2), .val (.int (Int32.ofNat A)), .val (.int (Int32.ofNat B)), .val (.int (Int32.ofNat E8)), .val (.int (own_b2i s0_)), .val (.int (own_b2i s1_)), .val (.int (own_b2i s2_)), .val (.int (own_b2i s3_)), .val (.int (own_b2i s4_)), .val (.int (own_b2i s5_)), .val (.int (own_b2i s6_)), .val (.int (own_b2i s7_)), .unset, .unset]) rfl ?_
      show Steps p.tables e below (T145.setTop (mkF m 285 #[.val (.long q1), .second, .val (.int p2), .val (.ref b2), .val (.int (Int32.ofNat A)), .val (.int (Int32.ofNat B)), .val (.int (Int32.ofNat E8)), .val (.int (own_b2i s0_)), .val (.int (own_b2i s1_)), .val (.int (own_b2i s2_)), .val (.int (own_b2i s3_)), .val (.int (own_b2i s4_)), .val (.int (own_b2i s5_)), .val (.int (own_b2i s6_)), .val (.int (own_b2i s7_)), .unset, .unset] [])) _
      refine XS.iconst X145.here hx rfl (hb hby at_285) ?_
      show Steps p.tables e below (T145.setTop (mkF m 286 #[.val (.long q1), .second, .val (.int p2), .val (.ref b2), .val (.int (Int32.ofNat A)), .val (.int (Int32.ofNat B)), .val (.int (Int32.ofNat E8)), .val (.int (own_b2i s0_)), .val (.int (own_b2i s1_)), .val (.int (own_b2i s2_)), .val (.int (own_b2i s3_)), .val (.int (own_b2i s4_)), .val (.int (own_b2i s5_)), .val (.int (own_b2i s6_)), .val (.int (own_b2i s7_)), .unset, .unset] [(.int (0 : Int32))])) _
      refine XS.iload X145.here hx rfl (hb hby at_286) rfl ?_
      show Steps p.tables e below (T145.setTop (mkF m 288 #[.val (.long q1), .second, .val (.int p2), .val (.ref b2), .val (.int (Int32.ofNat A)), .val (.int (Int32.ofNat B)), .val (.int (Int32.ofNat E8)), .val (.int (own_b2i s0_)), .val (.int (own_b2i s1_)), .val (.int (own_b2i s2_)), .val (.int (own_b2i s3_)), .val (.int (own_b2i s4_)), .val (.int (own_b2i s5_)), .val (.int (own_b2i s6_)), .val (.int (own_b2i s7_)), .unset, .unset] [(.int (Int32.ofNat A)), (.int (0 : Int32))])) _
      refine XS.iload X145.here hx rfl (hb hby at_288) rfl ?_
      show Steps p.tables e below (T145.setTop (mkF m 290 #[.val (.long q1), .second, .val (.int p2), .val (.ref b2), .val (.int (Int32.ofNat A)), .val (.int (Int32.ofNat B)), .val (.int (Int32.ofNat E8)), .val (.int (own_b2i s0_)), .val (.int (own_b2i s1_)), .val (.int (own_b2i s2_)), .val (.int (own_b2i s3_)), .val (.int (own_b2i s4_)), .val (.int (own_b2i s5_)), .val (.int (own_b2i s6_)), .val (.int (own_b2i s7_)), .unset, .unset] [(.int (Int32.ofNat E8)), (.int (Int32.ofNat A)), (.int (0 : Int32))])) _
      refine XS.iload X145.here hx rfl (hb hby at_290) rfl ?_
      exact k)
  have J150 : ∀ t, Steps p.tables e below (T145.setTop (mkF m 292 #[.val (.long q1), .second, .val (.int p2), .val (.ref b2), .val (.int (Int32.ofNat A)), .val (.int (Int32.ofNat B)), .val (.int (Int32.ofNat E8)), .val (.int (own_b2i s0_)), .val (.int (own_b2i s1_)), .val (.int (own_b2i s2_)), .val (.int (own_b2i s3_)), .val (.int (own_b2i s4_)), .val (.int (own_b2i s5_)), .val (.int (own_b2i s6_)), .val (.int (own_b2i s7_)), .unset, .unset] [(.int (own_b2i s0_)), (.int (Int32.ofNat E8)), (.int (Int32.ofNat A)), (.int (Int32.ofNat 0))])) t → Steps p.tables e below (s₁.setTop (entryFrame m #[(.long q1), (.int p2)] maxLocals)) t := J149
  obtain ⟨_, _, ⟨T151, L151, k151, n151⟩, -, X151, ⟨Lc151, hQ151, l151, y151, z151⟩, st151⟩ := Jvm.LawKit.callS X145 hx (y := (⟨"com/example/wisteria/wisteria/value/TextValueCharacterCountBeforeNulPinLaw", "one", "(IIIZ)I"⟩ : MethodName)) hown (mvT hZ (hw _ (List.mem_of_getElem? (i := 12) rfl))) (mvT hZ (hw _ (List.mem_of_getElem? (i := 13) rfl))) (mvT hZ (hw _ (List.mem_of_getElem? (i := 4) rfl))) (mvT hZ (hw _ (List.mem_of_getElem? (i := 14) rfl))) (by decide) (backOf (W := 0) (rm4 l Z a0 hw [] 0 A E8 s0_ h42 n0 Z44 (by decide) hA (by rw [qE8]; exact own_e_le hB 8)) hZ (hw _ (List.mem_of_getElem? (i := 14) rfl)) (hw _ (List.mem_of_getElem? (i := 4) rfl)) (by decide) (by decide)) (g := (mkF m 292 #[.val (.long q1), .second, .val (.int p2), .val (.ref b2), .val (.int (Int32.ofNat A)), .val (.int (Int32.ofNat B)), .val (.int (Int32.ofNat E8)), .val (.int (own_b2i s0_)), .val (.int (own_b2i s1_)), .val (.int (own_b2i s2_)), .val (.int (own_b2i s3_)), .val (.int (own_b2i s4_)), .val (.int (own_b2i s5_)), .val (.int (own_b2i s6_)), .val (.int (own_b2i s7_)), .unset, .unset] [(.int (own_b2i s0_)), (.int (Int32.ofNat E8)), (.int (Int32.ofNat A)), (.int (Int32.ofNat 0))])) rfl (by rw [hml]; rfl) (argsL := [(.int (Int32.ofNat 0)), (.int (Int32.ofNat A)), (.int (Int32.ofNat E8)), (.int (own_b2i s0_))]) (rest := []) (lenOf pd_5 rfl) rfl (by show 2 * 0 + _ ≤ _; exact Nat.le_of_eq rfl) (hb hby at_292) (fun _ _ => ⟨rfl, e145, (by decide : 1 + 0 ≤ _), (by decide : 8 + 0 ≤ _)⟩)
  dsimp only [Pt.U, Pt.locs, Pt.cells, Pt.slots] at X151 l151 y151 z151 st151 hQ151
  subst y151 z151
  obtain ⟨rfl, Nq151, e151⟩ := hQ151
  have N152 : Fr n0 L151 := by rw [l151]; exact Fr.app N146 Nq151
  have J153 : ∀ t, Steps p.tables e below (T151.setTop (mkF m 295 #[.val (.long q1), .second, .val (.int p2), .val (.ref b2), .val (.int (Int32.ofNat A)), .val (.int (Int32.ofNat B)), .val (.int (Int32.ofNat E8)), .val (.int (own_b2i s0_)), .val (.int (own_b2i s1_)), .val (.int (own_b2i s2_)), .val (.int (own_b2i s3_)), .val (.int (own_b2i s4_)), .val (.int (own_b2i s5_)), .val (.int (own_b2i s6_)), .val (.int (own_b2i s7_)), .unset, .unset] [(.int (Int32.ofNat (own_ind 0 A E8 s0_)))])) t → Steps p.tables e below (s₁.setTop (entryFrame m #[(.long q1), (.int p2)] maxLocals)) t := fun t k => J150 t (st151 t k)
  have J154 : ∀ t, Steps p.tables e below (T151.setTop (mkF m 302 #[.val (.long q1), .second, .val (.int p2), .val (.ref b2), .val (.int (Int32.ofNat A)), .val (.int (Int32.ofNat B)), .val (.int (Int32.ofNat E8)), .val (.int (own_b2i s0_)), .val (.int (own_b2i s1_)), .val (.int (own_b2i s2_)), .val (.int (own_b2i s3_)), .val (.int (own_b2i s4_)), .val (.int (own_b2i s5_)), .val (.int (own_b2i s6_)), .val (.int (own_b2i s7_)), .unset, .unset] [(.int (own_b2i s1_)), (.int (Int32.ofNat E8)), (.int (Int32.ofNat A)), (.int (1 : Int32)), (.int (Int32.ofNat (own_ind 0 A E8 s0_)))])) t → Steps p.tables e below (s₁.setTop (entryFrame m #[(.long q1), (.int p2)] maxLocals)) t := fun t k => J153 t (by
      show Steps p.tables e below (T151.setTop (mkF m 295 #[.val (.long q1), .second, .val (.int p2), .val (.ref b2), .val (.int (Int32.ofNat A)), .val (.int (Int32.ofNat B)), .val (.int (Int32.ofNat E8)), .val (.int (own_b2i s0_)), .val (.int (own_b2i s1_)), .val (.int (own_b2i s2_)), .val (.int (own_b2i s3_)), .val (.int (own_b2i s4_)), .val (.int (own_b2i s5_)), .val (.int (own_b2i s6_)), .val (.int (own_b2i s7_)), .unset, .unset] [(.int (Int32.ofNat (own_ind 0 A E8 s0_)))])) _
      refine XS.iconst X151.here hx rfl (hb hby at_295) ?_
      show Steps p.tables e below (T151.setTop (mkF m 296 #[.val (.long q1), .second, .val (.int p2), .val (.ref b2), .val (.int (Int32.ofNat A)), .val (.int (Int32.ofNat B)), .val (.int (Int32.ofNat E8)), .val (.int (own_b2i s0_)), .val (.int (own_b2i s1_)), .val (.int (own_b2i s2_)), .val (.int (own_b2i s3_)), .val (.int (own_b2i s4_)), .val (.int (own_b2i s5_)), .val (.int (own_b2i s6_)), .val (.int (own_b2i s7_)), .unset, .unset] [(.int (1 : Int32)), (.int (Int32.ofNat (own_ind 0 A E8 s0_)))])) _
      refine XS.iload X151.here hx rfl (hb hby at_296) rfl ?_
      show Steps p.tables e below (T151.setTop (mkF m 298 #[.val (.long q1), .second, .val (.int p2), .val (.ref b2), .val (.int (Int32.ofNat A)), .val (.int (Int32.ofNat B)), .val (.int (Int32.ofNat E8)), .val (.int (own_b2i s0_)), .val (.int (own_b2i s1_)), .val (.int (own_b2i s2_)), .val (.int (own_b2i s3_)), .val (.int (own_b2i s4_)), .val (.int (own_b2i s5_)), .val (.int (own_b2i s6_)), .val (.int (own_b2i s7_)), .unset, .unset] [(.int (Int32.ofNat A)), (.int (1 : Int32)), (.int (Int32.ofNat (own_ind 0 A E8 s0_)))])) _
      refine XS.iload X151.here hx rfl (hb hby at_298) rfl ?_
      show Steps p.tables e below (T151.setTop (mkF m 300 #[.val (.long q1), .second, .val (.int p2), .val (.ref b2), .val (.int (Int32.ofNat A)), .val (.int (Int32.ofNat B)), .val (.int (Int32.ofNat E8)), .val (.int (own_b2i s0_)), .val (.int (own_b2i s1_)), .val (.int (own_b2i s2_)), .val (.int (own_b2i s3_)), .val (.int (own_b2i s4_)), .val (.int (own_b2i s5_)), .val (.int (own_b2i s6_)), .val (.int (own_b2i s7_)), .unset, .unset] [(.int (Int32.ofNat E8)), (.int (Int32.ofNat A)), (.int (1 : Int32)), (.int (Int32.ofNat (own_ind 0 A E8 s0_)))])) _
      refine XS.iload X151.here hx rfl (hb hby at_300) rfl ?_
      exact k)
  have J155 : ∀ t, Steps p.tables e below (T151.setTop (mkF m 302 #[.val (.long q1), .second, .val (.int p2), .val (.ref b2), .val (.int (Int32.ofNat A)), .val (.int (Int32.ofNat B)), .val (.int (Int32.ofNat E8)), .val (.int (own_b2i s0_)), .val (.int (own_b2i s1_)), .val (.int (own_b2i s2_)), .val (.int (own_b2i s3_)), .val (.int (own_b2i s4_)), .val (.int (own_b2i s5_)), .val (.int (own_b2i s6_)), .val (.int (own_b2i s7_)), .unset, .unset] [(.int (own_b2i s1_)), (.int (Int32.ofNat E8)), (.int (Int32.ofNat A)), (.int (Int32.ofNat 1)), (.int (Int32.ofNat (own_ind 0 A E8 s0_)))])) t → Steps p.tables e below (s₁.setTop (entryFrame m #[(.long q1), (.int p2)] maxLocals)) t := J154
  obtain ⟨_, _, ⟨T156, L156, k156, n156⟩, -, X156, ⟨Lc156, hQ156, l156, y156, z156⟩, st156⟩ := Jvm.LawKit.callS X151 hx (y := (⟨"com/example/wisteria/wisteria/value/TextValueCharacterCountBeforeNulPinLaw", "one", "(IIIZ)I"⟩ : MethodName)) hown (mvT hZ (hw _ (List.mem_of_getElem? (i := 12) rfl))) (mvT hZ (hw _ (List.mem_of_getElem? (i := 13) rfl))) (mvT hZ (hw _ (List.mem_of_getElem? (i := 4) rfl))) (mvT hZ (hw _ (List.mem_of_getElem? (i := 14) rfl))) (by decide) (backOf (W := 1) (rm4 l Z a0 hw [] 1 A E8 s1_ h42 n0 Z44 (by decide) hA (by rw [qE8]; exact own_e_le hB 8)) hZ (hw _ (List.mem_of_getElem? (i := 14) rfl)) (hw _ (List.mem_of_getElem? (i := 4) rfl)) (by decide) (by decide)) (g := (mkF m 302 #[.val (.long q1), .second, .val (.int p2), .val (.ref b2), .val (.int (Int32.ofNat A)), .val (.int (Int32.ofNat B)), .val (.int (Int32.ofNat E8)), .val (.int (own_b2i s0_)), .val (.int (own_b2i s1_)), .val (.int (own_b2i s2_)), .val (.int (own_b2i s3_)), .val (.int (own_b2i s4_)), .val (.int (own_b2i s5_)), .val (.int (own_b2i s6_)), .val (.int (own_b2i s7_)), .unset, .unset] [(.int (own_b2i s1_)), (.int (Int32.ofNat E8)), (.int (Int32.ofNat A)), (.int (Int32.ofNat 1)), (.int (Int32.ofNat (own_ind 0 A E8 s0_)))])) rfl (by rw [hml]; rfl) (argsL := [(.int (Int32.ofNat 1)), (.int (Int32.ofNat A)), (.int (Int32.ofNat E8)), (.int (own_b2i s1_))]) (rest := [(.int (Int32.ofNat (own_ind 0 A E8 s0_)))]) (lenOf pd_5 rfl) rfl (by show 2 * 0 + _ ≤ _; exact Nat.le_of_eq rfl) (hb hby at_302) (fun _ _ => ⟨rfl, e151, (by decide : 1 + 0 ≤ _), (by decide : 8 + 0 ≤ _)⟩)
  dsimp only [Pt.U, Pt.locs, Pt.cells, Pt.slots] at X156 l156 y156 z156 st156 hQ156
  subst y156 z156
  obtain ⟨rfl, Nq156, e156⟩ := hQ156
  have N157 : Fr n0 L156 := by rw [l156]; exact Fr.app N152 Nq156
  have J158 : ∀ t, Steps p.tables e below (T156.setTop (mkF m 305 #[.val (.long q1), .second, .val (.int p2), .val (.ref b2), .val (.int (Int32.ofNat A)), .val (.int (Int32.ofNat B)), .val (.int (Int32.ofNat E8)), .val (.int (own_b2i s0_)), .val (.int (own_b2i s1_)), .val (.int (own_b2i s2_)), .val (.int (own_b2i s3_)), .val (.int (own_b2i s4_)), .val (.int (own_b2i s5_)), .val (.int (own_b2i s6_)), .val (.int (own_b2i s7_)), .unset, .unset] [(.int (Int32.ofNat (own_ind 1 A E8 s1_))), (.int (Int32.ofNat (own_ind 0 A E8 s0_)))])) t → Steps p.tables e below (s₁.setTop (entryFrame m #[(.long q1), (.int p2)] maxLocals)) t := fun t k => J155 t (st156 t k)
  have J159 : ∀ t, Steps p.tables e below (T156.setTop (mkF m 313 #[.val (.long q1), .second, .val (.int p2), .val (.ref b2), .val (.int (Int32.ofNat A)), .val (.int (Int32.ofNat B)), .val (.int (Int32.ofNat E8)), .val (.int (own_b2i s0_)), .val (.int (own_b2i s1_)), .val (.int (own_b2i s2_)), .val (.int (own_b2i s3_)), .val (.int (own_b2i s4_)), .val (.int (own_b2i s5_)), .val (.int (own_b2i s6_)), .val (.int (own_b2i s7_)), .unset, .unset] [(.int (own_b2i s2_)), (.int (Int32.ofNat E8)), (.int (Int32.ofNat A)), (.int (2 : Int32)), (.int ((Int32.ofNat (own_ind 0 A E8 s0_)) + (Int32.ofNat (own_ind 1 A E8 s1_))))])) t → Steps p.tables e below (s₁.setTop (entryFrame m #[(.long q1), (.int p2)] maxLocals)) t := fun t k => J158 t (by
      show Steps p.tables e below (T156.setTop (mkF m 305 #[.val (.long q1), .second, .val (.int p2), .val (.ref b2), .val (.int (Int32.ofNat A)), .val (.int (Int32.ofNat B)), .val (.int (Int32.ofNat E8)), .val (.int (own_b2i s0_)), .val (.int (own_b2i s1_)), .val (.int (own_b2i s2_)), .val (.int (own_b2i s3_)), .val (.int (own_b2i s4_)), .val (.int (own_b2i s5_)), .val (.int (own_b2i s6_)), .val (.int (own_b2i s7_)), .unset, .unset] [(.int (Int32.ofNat (own_ind 1 A E8 s1_))), (.int (Int32.ofNat (own_ind 0 A E8 s0_)))])) _
      refine XS.iadd X156.here hx rfl (hb hby at_305) rfl ?_
      show Steps p.tables e below (T156.setTop (mkF m 306 #[.val (.long q1), .second, .val (.int p2), .val (.ref b2), .val (.int (Int32.ofNat A)), .val (.int (Int32.ofNat B)), .val (.int (Int32.ofNat E8)), .val (.int (own_b2i s0_)), .val (.int (own_b2i s1_)), .val (.int (own_b2i s2_)), .val (.int (own_b2i s3_)), .val (.int (own_b2i s4_)), .val (.int (own_b2i s5_)), .val (.int (own_b2i s6_)), .val (.int (own_b2i s7_)), .unset, .unset] [(.int ((Int32.ofNat (own_ind 0 A E8 s0_)) + (Int32.ofNat (own_ind 1 A E8 s1_))))])) _
      refine XS.iconst X156.here hx rfl (hb hby at_306) ?_
      show Steps p.tables e below (T156.setTop (mkF m 307 #[.val (.long q1), .second, .val (.int p2), .val (.ref b2), .val (.int (Int32.ofNat A)), .val (.int (Int32.ofNat B)), .val (.int (Int32.ofNat E8)), .val (.int (own_b2i s0_)), .val (.int (own_b2i s1_)), .val (.int (own_b2i s2_)), .val (.int (own_b2i s3_)), .val (.int (own_b2i s4_)), .val (.int (own_b2i s5_)), .val (.int (own_b2i s6_)), .val (.int (own_b2i s7_)), .unset, .unset] [(.int (2 : Int32)), (.int ((Int32.ofNat (own_ind 0 A E8 s0_)) + (Int32.ofNat (own_ind 1 A E8 s1_))))])) _
      refine XS.iload X156.here hx rfl (hb hby at_307) rfl ?_
      show Steps p.tables e below (T156.setTop (mkF m 309 #[.val (.long q1), .second, .val (.int p2), .val (.ref b2), .val (.int (Int32.ofNat A)), .val (.int (Int32.ofNat B)), .val (.int (Int32.ofNat E8)), .val (.int (own_b2i s0_)), .val (.int (own_b2i s1_)), .val (.int (own_b2i s2_)), .val (.int (own_b2i s3_)), .val (.int (own_b2i s4_)), .val (.int (own_b2i s5_)), .val (.int (own_b2i s6_)), .val (.int (own_b2i s7_)), .unset, .unset] [(.int (Int32.ofNat A)), (.int (2 : Int32)), (.int ((Int32.ofNat (own_ind 0 A E8 s0_)) + (Int32.ofNat (own_ind 1 A E8 s1_))))])) _
      refine XS.iload X156.here hx rfl (hb hby at_309) rfl ?_
      show Steps p.tables e below (T156.setTop (mkF m 311 #[.val (.long q1), .second, .val (.int p2), .val (.ref b2), .val (.int (Int32.ofNat A)), .val (.int (Int32.ofNat B)), .val (.int (Int32.ofNat E8)), .val (.int (own_b2i s0_)), .val (.int (own_b2i s1_)), .val (.int (own_b2i s2_)), .val (.int (own_b2i s3_)), .val (.int (own_b2i s4_)), .val (.int (own_b2i s5_)), .val (.int (own_b2i s6_)), .val (.int (own_b2i s7_)), .unset, .unset] [(.int (Int32.ofNat E8)), (.int (Int32.ofNat A)), (.int (2 : Int32)), (.int ((Int32.ofNat (own_ind 0 A E8 s0_)) + (Int32.ofNat (own_ind 1 A E8 s1_))))])) _
      refine XS.iload X156.here hx rfl (hb hby at_311) rfl ?_
      exact k)
  have J160 : ∀ t, Steps p.tables e below (T156.setTop (mkF m 313 #[.val (.long q1), .second, .val (.int p2), .val (.ref b2), .val (.int (Int32.ofNat A)), .val (.int (Int32.ofNat B)), .val (.int (Int32.ofNat E8)), .val (.int (own_b2i s0_)), .val (.int (own_b2i s1_)), .val (.int (own_b2i s2_)), .val (.int (own_b2i s3_)), .val (.int (own_b2i s4_)), .val (.int (own_b2i s5_)), .val (.int (own_b2i s6_)), .val (.int (own_b2i s7_)), .unset, .unset] [(.int (own_b2i s2_)), (.int (Int32.ofNat E8)), (.int (Int32.ofNat A)), (.int (Int32.ofNat 2)), (.int ((Int32.ofNat (own_ind 0 A E8 s0_)) + (Int32.ofNat (own_ind 1 A E8 s1_))))])) t → Steps p.tables e below (s₁.setTop (entryFrame m #[(.long q1), (.int p2)] maxLocals)) t := J159
  obtain ⟨_, _, ⟨T161, L161, k161, n161⟩, -, X161, ⟨Lc161, hQ161, l161, y161, z161⟩, st161⟩ := Jvm.LawKit.callS X156 hx (y := (⟨"com/example/wisteria/wisteria/value/TextValueCharacterCountBeforeNulPinLaw", "one", "(IIIZ)I"⟩ : MethodName)) hown (mvT hZ (hw _ (List.mem_of_getElem? (i := 12) rfl))) (mvT hZ (hw _ (List.mem_of_getElem? (i := 13) rfl))) (mvT hZ (hw _ (List.mem_of_getElem? (i := 4) rfl))) (mvT hZ (hw _ (List.mem_of_getElem? (i := 14) rfl))) (by decide) (backOf (W := 1) (rm4 l Z a0 hw [] 2 A E8 s2_ h42 n0 Z44 (by decide) hA (by rw [qE8]; exact own_e_le hB 8)) hZ (hw _ (List.mem_of_getElem? (i := 14) rfl)) (hw _ (List.mem_of_getElem? (i := 4) rfl)) (by decide) (by decide)) (g := (mkF m 313 #[.val (.long q1), .second, .val (.int p2), .val (.ref b2), .val (.int (Int32.ofNat A)), .val (.int (Int32.ofNat B)), .val (.int (Int32.ofNat E8)), .val (.int (own_b2i s0_)), .val (.int (own_b2i s1_)), .val (.int (own_b2i s2_)), .val (.int (own_b2i s3_)), .val (.int (own_b2i s4_)), .val (.int (own_b2i s5_)), .val (.int (own_b2i s6_)), .val (.int (own_b2i s7_)), .unset, .unset] [(.int (own_b2i s2_)), (.int (Int32.ofNat E8)), (.int (Int32.ofNat A)), (.int (Int32.ofNat 2)), (.int ((Int32.ofNat (own_ind 0 A E8 s0_)) + (Int32.ofNat (own_ind 1 A E8 s1_))))])) rfl (by rw [hml]; rfl) (argsL := [(.int (Int32.ofNat 2)), (.int (Int32.ofNat A)), (.int (Int32.ofNat E8)), (.int (own_b2i s2_))]) (rest := [(.int ((Int32.ofNat (own_ind 0 A E8 s0_)) + (Int32.ofNat (own_ind 1 A E8 s1_))))]) (lenOf pd_5 rfl) rfl (by show 2 * 0 + _ ≤ _; exact Nat.le_of_eq rfl) (hb hby at_313) (fun _ _ => ⟨rfl, e156, (by decide : 1 + 0 ≤ _), (by decide : 8 + 0 ≤ _)⟩)
  dsimp only [Pt.U, Pt.locs, Pt.cells, Pt.slots] at X161 l161 y161 z161 st161 hQ161
  subst y161 z161
  obtain ⟨rfl, Nq161, e161⟩ := hQ161
  have N162 : Fr n0 L161 := by rw [l161]; exact Fr.app N157 Nq161
  have J163 : ∀ t, Steps p.tables e below (T161.setTop (mkF m 316 #[.val (.long q1), .second, .val (.int p2), .val (.ref b2), .val (.int (Int32.ofNat A)), .val (.int (Int32.ofNat B)), .val (.int (Int32.ofNat E8)), .val (.int (own_b2i s0_)), .val (.int (own_b2i s1_)), .val (.int (own_b2i s2_)), .val (.int (own_b2i s3_)), .val (.int (own_b2i s4_)), .val (.int (own_b2i s5_)), .val (.int (own_b2i s6_)), .val (.int (own_b2i s7_)), .unset, .unset] [(.int (Int32.ofNat (own_ind 2 A E8 s2_))), (.int ((Int32.ofNat (own_ind 0 A E8 s0_)) + (Int32.ofNat (own_ind 1 A E8 s1_))))])) t → Steps p.tables e below (s₁.setTop (entryFrame m #[(.long q1), (.int p2)] maxLocals)) t := fun t k => J160 t (st161 t k)
  have J164 : ∀ t, Steps p.tables e below (T161.setTop (mkF m 324 #[.val (.long q1), .second, .val (.int p2), .val (.ref b2), .val (.int (Int32.ofNat A)), .val (.int (Int32.ofNat B)), .val (.int (Int32.ofNat E8)), .val (.int (own_b2i s0_)), .val (.int (own_b2i s1_)), .val (.int (own_b2i s2_)), .val (.int (own_b2i s3_)), .val (.int (own_b2i s4_)), .val (.int (own_b2i s5_)), .val (.int (own_b2i s6_)), .val (.int (own_b2i s7_)), .unset, .unset] [(.int (own_b2i s3_)), (.int (Int32.ofNat E8)), (.int (Int32.ofNat A)), (.int (3 : Int32)), (.int (((Int32.ofNat (own_ind 0 A E8 s0_)) + (Int32.ofNat (own_ind 1 A E8 s1_))) + (Int32.ofNat (own_ind 2 A E8 s2_))))])) t → Steps p.tables e below (s₁.setTop (entryFrame m #[(.long q1), (.int p2)] maxLocals)) t := fun t k => J163 t (by
      show Steps p.tables e below (T161.setTop (mkF m 316 #[.val (.long q1), .second, .val (.int p2), .val (.ref b2), .val (.int (Int32.ofNat A)), .val (.int (Int32.ofNat B)), .val (.int (Int32.ofNat E8)), .val (.int (own_b2i s0_)), .val (.int (own_b2i s1_)), .val (.int (own_b2i s2_)), .val (.int (own_b2i s3_)), .val (.int (own_b2i s4_)), .val (.int (own_b2i s5_)), .val (.int (own_b2i s6_)), .val (.int (own_b2i s7_)), .unset, .unset] [(.int (Int32.ofNat (own_ind 2 A E8 s2_))), (.int ((Int32.ofNat (own_ind 0 A E8 s0_)) + (Int32.ofNat (own_ind 1 A E8 s1_))))])) _
      refine XS.iadd X161.here hx rfl (hb hby at_316) rfl ?_
      show Steps p.tables e below (T161.setTop (mkF m 317 #[.val (.long q1), .second, .val (.int p2), .val (.ref b2), .val (.int (Int32.ofNat A)), .val (.int (Int32.ofNat B)), .val (.int (Int32.ofNat E8)), .val (.int (own_b2i s0_)), .val (.int (own_b2i s1_)), .val (.int (own_b2i s2_)), .val (.int (own_b2i s3_)), .val (.int (own_b2i s4_)), .val (.int (own_b2i s5_)), .val (.int (own_b2i s6_)), .val (.int (own_b2i s7_)), .unset, .unset] [(.int (((Int32.ofNat (own_ind 0 A E8 s0_)) + (Int32.ofNat (own_ind 1 A E8 s1_))) + (Int32.ofNat (own_ind 2 A E8 s2_))))])) _
      refine XS.iconst X161.here hx rfl (hb hby at_317) ?_
      show Steps p.tables e below (T161.setTop (mkF m 318 #[.val (.long q1), .second, .val (.int p2), .val (.ref b2), .val (.int (Int32.ofNat A)), .val (.int (Int32.ofNat B)), .val (.int (Int32.ofNat E8)), .val (.int (own_b2i s0_)), .val (.int (own_b2i s1_)), .val (.int (own_b2i s2_)), .val (.int (own_b2i s3_)), .val (.int (own_b2i s4_)), .val (.int (own_b2i s5_)), .val (.int (own_b2i s6_)), .val (.int (own_b2i s7_)), .unset, .unset] [(.int (3 : Int32)), (.int (((Int32.ofNat (own_ind 0 A E8 s0_)) + (Int32.ofNat (own_ind 1 A E8 s1_))) + (Int32.ofNat (own_ind 2 A E8 s2_))))])) _
      refine XS.iload X161.here hx rfl (hb hby at_318) rfl ?_
      show Steps p.tables e below (T161.setTop (mkF m 320 #[.val (.long q1), .second, .val (.int p2), .val (.ref b2), .val (.int (Int32.ofNat A)), .val (.int (Int32.ofNat B)), .val (.int (Int32.ofNat E8)), .val (.int (own_b2i s0_)), .val (.int (own_b2i s1_)), .val (.int (own_b2i s2_)), .val (.int (own_b2i s3_)), .val (.int (own_b2i s4_)), .val (.int (own_b2i s5_)), .val (.int (own_b2i s6_)), .val (.int (own_b2i s7_)), .unset, .unset] [(.int (Int32.ofNat A)), (.int (3 : Int32)), (.int (((Int32.ofNat (own_ind 0 A E8 s0_)) + (Int32.ofNat (own_ind 1 A E8 s1_))) + (Int32.ofNat (own_ind 2 A E8 s2_))))])) _
      refine XS.iload X161.here hx rfl (hb hby at_320) rfl ?_
      show Steps p.tables e below (T161.setTop (mkF m 322 #[.val (.long q1), .second, .val (.int p2), .val (.ref b2), .val (.int (Int32.ofNat A)), .val (.int (Int32.ofNat B)), .val (.int (Int32.ofNat E8)), .val (.int (own_b2i s0_)), .val (.int (own_b2i s1_)), .val (.int (own_b2i s2_)), .val (.int (own_b2i s3_)), .val (.int (own_b2i s4_)), .val (.int (own_b2i s5_)), .val (.int (own_b2i s6_)), .val (.int (own_b2i s7_)), .unset, .unset] [(.int (Int32.ofNat E8)), (.int (Int32.ofNat A)), (.int (3 : Int32)), (.int (((Int32.ofNat (own_ind 0 A E8 s0_)) + (Int32.ofNat (own_ind 1 A E8 s1_))) + (Int32.ofNat (own_ind 2 A E8 s2_))))])) _
      refine XS.iload X161.here hx rfl (hb hby at_322) rfl ?_
      exact k)
  have J165 : ∀ t, Steps p.tables e below (T161.setTop (mkF m 324 #[.val (.long q1), .second, .val (.int p2), .val (.ref b2), .val (.int (Int32.ofNat A)), .val (.int (Int32.ofNat B)), .val (.int (Int32.ofNat E8)), .val (.int (own_b2i s0_)), .val (.int (own_b2i s1_)), .val (.int (own_b2i s2_)), .val (.int (own_b2i s3_)), .val (.int (own_b2i s4_)), .val (.int (own_b2i s5_)), .val (.int (own_b2i s6_)), .val (.int (own_b2i s7_)), .unset, .unset] [(.int (own_b2i s3_)), (.int (Int32.ofNat E8)), (.int (Int32.ofNat A)), (.int (Int32.ofNat 3)), (.int (((Int32.ofNat (own_ind 0 A E8 s0_)) + (Int32.ofNat (own_ind 1 A E8 s1_))) + (Int32.ofNat (own_ind 2 A E8 s2_))))])) t → Steps p.tables e below (s₁.setTop (entryFrame m #[(.long q1), (.int p2)] maxLocals)) t := J164
  obtain ⟨_, _, ⟨T166, L166, k166, n166⟩, -, X166, ⟨Lc166, hQ166, l166, y166, z166⟩, st166⟩ := Jvm.LawKit.callS X161 hx (y := (⟨"com/example/wisteria/wisteria/value/TextValueCharacterCountBeforeNulPinLaw", "one", "(IIIZ)I"⟩ : MethodName)) hown (mvT hZ (hw _ (List.mem_of_getElem? (i := 12) rfl))) (mvT hZ (hw _ (List.mem_of_getElem? (i := 13) rfl))) (mvT hZ (hw _ (List.mem_of_getElem? (i := 4) rfl))) (mvT hZ (hw _ (List.mem_of_getElem? (i := 14) rfl))) (by decide) (backOf (W := 1) (rm4 l Z a0 hw [] 3 A E8 s3_ h42 n0 Z44 (by decide) hA (by rw [qE8]; exact own_e_le hB 8)) hZ (hw _ (List.mem_of_getElem? (i := 14) rfl)) (hw _ (List.mem_of_getElem? (i := 4) rfl)) (by decide) (by decide)) (g := (mkF m 324 #[.val (.long q1), .second, .val (.int p2), .val (.ref b2), .val (.int (Int32.ofNat A)), .val (.int (Int32.ofNat B)), .val (.int (Int32.ofNat E8)), .val (.int (own_b2i s0_)), .val (.int (own_b2i s1_)), .val (.int (own_b2i s2_)), .val (.int (own_b2i s3_)), .val (.int (own_b2i s4_)), .val (.int (own_b2i s5_)), .val (.int (own_b2i s6_)), .val (.int (own_b2i s7_)), .unset, .unset] [(.int (own_b2i s3_)), (.int (Int32.ofNat E8)), (.int (Int32.ofNat A)), (.int (Int32.ofNat 3)), (.int (((Int32.ofNat (own_ind 0 A E8 s0_)) + (Int32.ofNat (own_ind 1 A E8 s1_))) + (Int32.ofNat (own_ind 2 A E8 s2_))))])) rfl (by rw [hml]; rfl) (argsL := [(.int (Int32.ofNat 3)), (.int (Int32.ofNat A)), (.int (Int32.ofNat E8)), (.int (own_b2i s3_))]) (rest := [(.int (((Int32.ofNat (own_ind 0 A E8 s0_)) + (Int32.ofNat (own_ind 1 A E8 s1_))) + (Int32.ofNat (own_ind 2 A E8 s2_))))]) (lenOf pd_5 rfl) rfl (by show 2 * 0 + _ ≤ _; exact Nat.le_of_eq rfl) (hb hby at_324) (fun _ _ => ⟨rfl, e161, (by decide : 1 + 0 ≤ _), (by decide : 8 + 0 ≤ _)⟩)
  dsimp only [Pt.U, Pt.locs, Pt.cells, Pt.slots] at X166 l166 y166 z166 st166 hQ166
  subst y166 z166
  obtain ⟨rfl, Nq166, e166⟩ := hQ166
  have N167 : Fr n0 L166 := by rw [l166]; exact Fr.app N162 Nq166
  have J168 : ∀ t, Steps p.tables e below (T166.setTop (mkF m 327 #[.val (.long q1), .second, .val (.int p2), .val (.ref b2), .val (.int (Int32.ofNat A)), .val (.int (Int32.ofNat B)), .val (.int (Int32.ofNat E8)), .val (.int (own_b2i s0_)), .val (.int (own_b2i s1_)), .val (.int (own_b2i s2_)), .val (.int (own_b2i s3_)), .val (.int (own_b2i s4_)), .val (.int (own_b2i s5_)), .val (.int (own_b2i s6_)), .val (.int (own_b2i s7_)), .unset, .unset] [(.int (Int32.ofNat (own_ind 3 A E8 s3_))), (.int (((Int32.ofNat (own_ind 0 A E8 s0_)) + (Int32.ofNat (own_ind 1 A E8 s1_))) + (Int32.ofNat (own_ind 2 A E8 s2_))))])) t → Steps p.tables e below (s₁.setTop (entryFrame m #[(.long q1), (.int p2)] maxLocals)) t := fun t k => J165 t (st166 t k)
  have J169 : ∀ t, Steps p.tables e below (T166.setTop (mkF m 335 #[.val (.long q1), .second, .val (.int p2), .val (.ref b2), .val (.int (Int32.ofNat A)), .val (.int (Int32.ofNat B)), .val (.int (Int32.ofNat E8)), .val (.int (own_b2i s0_)), .val (.int (own_b2i s1_)), .val (.int (own_b2i s2_)), .val (.int (own_b2i s3_)), .val (.int (own_b2i s4_)), .val (.int (own_b2i s5_)), .val (.int (own_b2i s6_)), .val (.int (own_b2i s7_)), .unset, .unset] [(.int (own_b2i s4_)), (.int (Int32.ofNat E8)), (.int (Int32.ofNat A)), (.int (4 : Int32)), (.int ((((Int32.ofNat (own_ind 0 A E8 s0_)) + (Int32.ofNat (own_ind 1 A E8 s1_))) + (Int32.ofNat (own_ind 2 A E8 s2_))) + (Int32.ofNat (own_ind 3 A E8 s3_))))])) t → Steps p.tables e below (s₁.setTop (entryFrame m #[(.long q1), (.int p2)] maxLocals)) t := fun t k => J168 t (by
      show Steps p.tables e below (T166.setTop (mkF m 327 #[.val (.long q1), .second, .val (.int p2), .val (.ref b2), .val (.int (Int32.ofNat A)), .val (.int (Int32.ofNat B)), .val (.int (Int32.ofNat E8)), .val (.int (own_b2i s0_)), .val (.int (own_b2i s1_)), .val (.int (own_b2i s2_)), .val (.int (own_b2i s3_)), .val (.int (own_b2i s4_)), .val (.int (own_b2i s5_)), .val (.int (own_b2i s6_)), .val (.int (own_b2i s7_)), .unset, .unset] [(.int (Int32.ofNat (own_ind 3 A E8 s3_))), (.int (((Int32.ofNat (own_ind 0 A E8 s0_)) + (Int32.ofNat (own_ind 1 A E8 s1_))) + (Int32.ofNat (own_ind 2 A E8 s2_))))])) _
      refine XS.iadd X166.here hx rfl (hb hby at_327) rfl ?_
      show Steps p.tables e below (T166.setTop (mkF m 328 #[.val (.long q1), .second, .val (.int p2), .val (.ref b2), .val (.int (Int32.ofNat A)), .val (.int (Int32.ofNat B)), .val (.int (Int32.ofNat E8)), .val (.int (own_b2i s0_)), .val (.int (own_b2i s1_)), .val (.int (own_b2i s2_)), .val (.int (own_b2i s3_)), .val (.int (own_b2i s4_)), .val (.int (own_b2i s5_)), .val (.int (own_b2i s6_)), .val (.int (own_b2i s7_)), .unset, .unset] [(.int ((((Int32.ofNat (own_ind 0 A E8 s0_)) + (Int32.ofNat (own_ind 1 A E8 s1_))) + (Int32.ofNat (own_ind 2 A E8 s2_))) + (Int32.ofNat (own_ind 3 A E8 s3_))))])) _
      refine XS.iconst X166.here hx rfl (hb hby at_328) ?_
      show Steps p.tables e below (T166.setTop (mkF m 329 #[.val (.long q1), .second, .val (.int p2), .val (.ref b2), .val (.int (Int32.ofNat A)), .val (.int (Int32.ofNat B)), .val (.int (Int32.ofNat E8)), .val (.int (own_b2i s0_)), .val (.int (own_b2i s1_)), .val (.int (own_b2i s2_)), .val (.int (own_b2i s3_)), .val (.int (own_b2i s4_)), .val (.int (own_b2i s5_)), .val (.int (own_b2i s6_)), .val (.int (own_b2i s7_)), .unset, .unset] [(.int (4 : Int32)), (.int ((((Int32.ofNat (own_ind 0 A E8 s0_)) + (Int32.ofNat (own_ind 1 A E8 s1_))) + (Int32.ofNat (own_ind 2 A E8 s2_))) + (Int32.ofNat (own_ind 3 A E8 s3_))))])) _
      refine XS.iload X166.here hx rfl (hb hby at_329) rfl ?_
      show Steps p.tables e below (T166.setTop (mkF m 331 #[.val (.long q1), .second, .val (.int p2), .val (.ref b2), .val (.int (Int32.ofNat A)), .val (.int (Int32.ofNat B)), .val (.int (Int32.ofNat E8)), .val (.int (own_b2i s0_)), .val (.int (own_b2i s1_)), .val (.int (own_b2i s2_)), .val (.int (own_b2i s3_)), .val (.int (own_b2i s4_)), .val (.int (own_b2i s5_)), .val (.int (own_b2i s6_)), .val (.int (own_b2i s7_)), .unset, .unset] [(.int (Int32.ofNat A)), (.int (4 : Int32)), (.int ((((Int32.ofNat (own_ind 0 A E8 s0_)) + (Int32.ofNat (own_ind 1 A E8 s1_))) + (Int32.ofNat (own_ind 2 A E8 s2_))) + (Int32.ofNat (own_ind 3 A E8 s3_))))])) _
      refine XS.iload X166.here hx rfl (hb hby at_331) rfl ?_
      show Steps p.tables e below (T166.setTop (mkF m 333 #[.val (.long q1), .second, .val (.int p2), .val (.ref b2), .val (.int (Int32.ofNat A)), .val (.int (Int32.ofNat B)), .val (.int (Int32.ofNat E8)), .val (.int (own_b2i s0_)), .val (.int (own_b2i s1_)), .val (.int (own_b2i s2_)), .val (.int (own_b2i s3_)), .val (.int (own_b2i s4_)), .val (.int (own_b2i s5_)), .val (.int (own_b2i s6_)), .val (.int (own_b2i s7_)), .unset, .unset] [(.int (Int32.ofNat E8)), (.int (Int32.ofNat A)), (.int (4 : Int32)), (.int ((((Int32.ofNat (own_ind 0 A E8 s0_)) + (Int32.ofNat (own_ind 1 A E8 s1_))) + (Int32.ofNat (own_ind 2 A E8 s2_))) + (Int32.ofNat (own_ind 3 A E8 s3_))))])) _
      refine XS.iload X166.here hx rfl (hb hby at_333) rfl ?_
      exact k)
  have J170 : ∀ t, Steps p.tables e below (T166.setTop (mkF m 335 #[.val (.long q1), .second, .val (.int p2), .val (.ref b2), .val (.int (Int32.ofNat A)), .val (.int (Int32.ofNat B)), .val (.int (Int32.ofNat E8)), .val (.int (own_b2i s0_)), .val (.int (own_b2i s1_)), .val (.int (own_b2i s2_)), .val (.int (own_b2i s3_)), .val (.int (own_b2i s4_)), .val (.int (own_b2i s5_)), .val (.int (own_b2i s6_)), .val (.int (own_b2i s7_)), .unset, .unset] [(.int (own_b2i s4_)), (.int (Int32.ofNat E8)), (.int (Int32.ofNat A)), (.int (Int32.ofNat 4)), (.int ((((Int32.ofNat (own_ind 0 A E8 s0_)) + (Int32.ofNat (own_ind 1 A E8 s1_))) + (Int32.ofNat (own_ind 2 A E8 s2_))) + (Int32.ofNat (own_ind 3 A E8 s3_))))])) t → Steps p.tables e below (s₁.setTop (entryFrame m #[(.long q1), (.int p2)] maxLocals)) t := J169
  obtain ⟨_, _, ⟨T171, L171, k171, n171⟩, -, X171, ⟨Lc171, hQ171, l171, y171, z171⟩, st171⟩ := Jvm.LawKit.callS X166 hx (y := (⟨"com/example/wisteria/wisteria/value/TextValueCharacterCountBeforeNulPinLaw", "one", "(IIIZ)I"⟩ : MethodName)) hown (mvT hZ (hw _ (List.mem_of_getElem? (i := 12) rfl))) (mvT hZ (hw _ (List.mem_of_getElem? (i := 13) rfl))) (mvT hZ (hw _ (List.mem_of_getElem? (i := 4) rfl))) (mvT hZ (hw _ (List.mem_of_getElem? (i := 14) rfl))) (by decide) (backOf (W := 1) (rm4 l Z a0 hw [] 4 A E8 s4_ h42 n0 Z44 (by decide) hA (by rw [qE8]; exact own_e_le hB 8)) hZ (hw _ (List.mem_of_getElem? (i := 14) rfl)) (hw _ (List.mem_of_getElem? (i := 4) rfl)) (by decide) (by decide)) (g := (mkF m 335 #[.val (.long q1), .second, .val (.int p2), .val (.ref b2), .val (.int (Int32.ofNat A)), .val (.int (Int32.ofNat B)), .val (.int (Int32.ofNat E8)), .val (.int (own_b2i s0_)), .val (.int (own_b2i s1_)), .val (.int (own_b2i s2_)), .val (.int (own_b2i s3_)), .val (.int (own_b2i s4_)), .val (.int (own_b2i s5_)), .val (.int (own_b2i s6_)), .val (.int (own_b2i s7_)), .unset, .unset] [(.int (own_b2i s4_)), (.int (Int32.ofNat E8)), (.int (Int32.ofNat A)), (.int (Int32.ofNat 4)), (.int ((((Int32.ofNat (own_ind 0 A E8 s0_)) + (Int32.ofNat (own_ind 1 A E8 s1_))) + (Int32.ofNat (own_ind 2 A E8 s2_))) + (Int32.ofNat (own_ind 3 A E8 s3_))))])) rfl (by rw [hml]; rfl) (argsL := [(.int (Int32.ofNat 4)), (.int (Int32.ofNat A)), (.int (Int32.ofNat E8)), (.int (own_b2i s4_))]) (rest := [(.int ((((Int32.ofNat (own_ind 0 A E8 s0_)) + (Int32.ofNat (own_ind 1 A E8 s1_))) + (Int32.ofNat (own_ind 2 A E8 s2_))) + (Int32.ofNat (own_ind 3 A E8 s3_))))]) (lenOf pd_5 rfl) rfl (by show 2 * 0 + _ ≤ _; exact Nat.le_of_eq rfl) (hb hby at_335) (fun _ _ => ⟨rfl, e166, (by decide : 1 + 0 ≤ _), (by decide : 8 + 0 ≤ _)⟩)
  dsimp only [Pt.U, Pt.locs, Pt.cells, Pt.slots] at X171 l171 y171 z171 st171 hQ171
  subst y171 z171
  obtain ⟨rfl, Nq171, e171⟩ := hQ171
  have N172 : Fr n0 L171 := by rw [l171]; exact Fr.app N167 Nq171
  have J173 : ∀ t, Steps p.tables e below (T171.setTop (mkF m 338 #[.val (.long q1), .second, .val (.int p2), .val (.ref b2), .val (.int (Int32.ofNat A)), .val (.int (Int32.ofNat B)), .val (.int (Int32.ofNat E8)), .val (.int (own_b2i s0_)), .val (.int (own_b2i s1_)), .val (.int (own_b2i s2_)), .val (.int (own_b2i s3_)), .val (.int (own_b2i s4_)), .val (.int (own_b2i s5_)), .val (.int (own_b2i s6_)), .val (.int (own_b2i s7_)), .unset, .unset] [(.int (Int32.ofNat (own_ind 4 A E8 s4_))), (.int ((((Int32.ofNat (own_ind 0 A E8 s0_)) + (Int32.ofNat (own_ind 1 A E8 s1_))) + (Int32.ofNat (own_ind 2 A E8 s2_))) + (Int32.ofNat (own_ind 3 A E8 s3_))))])) t → Steps p.tables e below (s₁.setTop (entryFrame m #[(.long q1), (.int p2)] maxLocals)) t := fun t k => J170 t (st171 t k)
  have J174 : ∀ t, Steps p.tables e below (T171.setTop (mkF m 346 #[.val (.long q1), .second, .val (.int p2), .val (.ref b2), .val (.int (Int32.ofNat A)), .val (.int (Int32.ofNat B)), .val (.int (Int32.ofNat E8)), .val (.int (own_b2i s0_)), .val (.int (own_b2i s1_)), .val (.int (own_b2i s2_)), .val (.int (own_b2i s3_)), .val (.int (own_b2i s4_)), .val (.int (own_b2i s5_)), .val (.int (own_b2i s6_)), .val (.int (own_b2i s7_)), .unset, .unset] [(.int (own_b2i s5_)), (.int (Int32.ofNat E8)), (.int (Int32.ofNat A)), (.int (5 : Int32)), (.int (((((Int32.ofNat (own_ind 0 A E8 s0_)) + (Int32.ofNat (own_ind 1 A E8 s1_))) + (Int32.ofNat (own_ind 2 A E8 s2_))) + (Int32.ofNat (own_ind 3 A E8 s3_))) + (Int32.ofNat (own_ind 4 A E8 s4_))))])) t → Steps p.tables e below (s₁.setTop (entryFrame m #[(.long q1), (.int p2)] maxLocals)) t := fun t k => J173 t (by
      show Steps p.tables e below (T171.setTop (mkF m 338 #[.val (.long q1), .second, .val (.int p2), .val (.ref b2), .val (.int (Int32.ofNat A)), .val (.int (Int32.ofNat B)), .val (.int (Int32.ofNat E8)), .val (.int (own_b2i s0_)), .val (.int (own_b2i s1_)), .val (.int (own_b2i s2_)), .val (.int (own_b2i s3_)), .val (.int (own_b2i s4_)), .val (.int (own_b2i s5_)), .val (.int (own_b2i s6_)), .val (.int (own_b2i s7_)), .unset, .unset] [(.int (Int32.ofNat (own_ind 4 A E8 s4_))), (.int ((((Int32.ofNat (own_ind 0 A E8 s0_)) + (Int32.ofNat (own_ind 1 A E8 s1_))) + (Int32.ofNat (own_ind 2 A E8 s2_))) + (Int32.ofNat (own_ind 3 A E8 s3_))))])) _
      refine XS.iadd X171.here hx rfl (hb hby at_338) rfl ?_
      show Steps p.tables e below (T171.setTop (mkF m 339 #[.val (.long q1), .second, .val (.int p2), .val (.ref b2), .val (.int (Int32.ofNat A)), .val (.int (Int32.ofNat B)), .val (.int (Int32.ofNat E8)), .val (.int (own_b2i s0_)), .val (.int (own_b2i s1_)), .val (.int (own_b2i s2_)), .val (.int (own_b2i s3_)), .val (.int (own_b2i s4_)), .val (.int (own_b2i s5_)), .val (.int (own_b2i s6_)), .val (.int (own_b2i s7_)), .unset, .unset] [(.int (((((Int32.ofNat (own_ind 0 A E8 s0_)) + (Int32.ofNat (own_ind 1 A E8 s1_))) + (Int32.ofNat (own_ind 2 A E8 s2_))) + (Int32.ofNat (own_ind 3 A E8 s3_))) + (Int32.ofNat (own_ind 4 A E8 s4_))))])) _
      refine XS.iconst X171.here hx rfl (hb hby at_339) ?_
      show Steps p.tables e below (T171.setTop (mkF m 340 #[.val (.long q1), .second, .val (.int p2), .val (.ref b2), .val (.int (Int32.ofNat A)), .val (.int (Int32.ofNat B)), .val (.int (Int32.ofNat E8)), .val (.int (own_b2i s0_)), .val (.int (own_b2i s1_)), .val (.int (own_b2i s2_)), .val (.int (own_b2i s3_)), .val (.int (own_b2i s4_)), .val (.int (own_b2i s5_)), .val (.int (own_b2i s6_)), .val (.int (own_b2i s7_)), .unset, .unset] [(.int (5 : Int32)), (.int (((((Int32.ofNat (own_ind 0 A E8 s0_)) + (Int32.ofNat (own_ind 1 A E8 s1_))) + (Int32.ofNat (own_ind 2 A E8 s2_))) + (Int32.ofNat (own_ind 3 A E8 s3_))) + (Int32.ofNat (own_ind 4 A E8 s4_))))])) _
      refine XS.iload X171.here hx rfl (hb hby at_340) rfl ?_
      show Steps p.tables e below (T171.setTop (mkF m 342 #[.val (.long q1), .second, .val (.int p2), .val (.ref b2), .val (.int (Int32.ofNat A)), .val (.int (Int32.ofNat B)), .val (.int (Int32.ofNat E8)), .val (.int (own_b2i s0_)), .val (.int (own_b2i s1_)), .val (.int (own_b2i s2_)), .val (.int (own_b2i s3_)), .val (.int (own_b2i s4_)), .val (.int (own_b2i s5_)), .val (.int (own_b2i s6_)), .val (.int (own_b2i s7_)), .unset, .unset] [(.int (Int32.ofNat A)), (.int (5 : Int32)), (.int (((((Int32.ofNat (own_ind 0 A E8 s0_)) + (Int32.ofNat (own_ind 1 A E8 s1_))) + (Int32.ofNat (own_ind 2 A E8 s2_))) + (Int32.ofNat (own_ind 3 A E8 s3_))) + (Int32.ofNat (own_ind 4 A E8 s4_))))])) _
      refine XS.iload X171.here hx rfl (hb hby at_342) rfl ?_
      show Steps p.tables e below (T171.setTop (mkF m 344 #[.val (.long q1), .second, .val (.int p2), .val (.ref b2), .val (.int (Int32.ofNat A)), .val (.int (Int32.ofNat B)), .val (.int (Int32.ofNat E8)), .val (.int (own_b2i s0_)), .val (.int (own_b2i s1_)), .val (.int (own_b2i s2_)), .val (.int (own_b2i s3_)), .val (.int (own_b2i s4_)), .val (.int (own_b2i s5_)), .val (.int (own_b2i s6_)), .val (.int (own_b2i s7_)), .unset, .unset] [(.int (Int32.ofNat E8)), (.int (Int32.ofNat A)), (.int (5 : Int32)), (.int (((((Int32.ofNat (own_ind 0 A E8 s0_)) + (Int32.ofNat (own_ind 1 A E8 s1_))) + (Int32.ofNat (own_ind 2 A E8 s2_))) + (Int32.ofNat (own_ind 3 A E8 s3_))) + (Int32.ofNat (own_ind 4 A E8 s4_))))])) _
      refine XS.iload X171.here hx rfl (hb hby at_344) rfl ?_
      exact k)
  have J175 : ∀ t, Steps p.tables e below (T171.setTop (mkF m 346 #[.val (.long q1), .second, .val (.int p2), .val (.ref b2), .val (.int (Int32.ofNat A)), .val (.int (Int32.ofNat B)), .val (.int (Int32.ofNat E8)), .val (.int (own_b2i s0_)), .val (.int (own_b2i s1_)), .val (.int (own_b2i s2_)), .val (.int (own_b2i s3_)), .val (.int (own_b2i s4_)), .val (.int (own_b2i s5_)), .val (.int (own_b2i s6_)), .val (.int (own_b2i s7_)), .unset, .unset] [(.int (own_b2i s5_)), (.int (Int32.ofNat E8)), (.int (Int32.ofNat A)), (.int (Int32.ofNat 5)), (.int (((((Int32.ofNat (own_ind 0 A E8 s0_)) + (Int32.ofNat (own_ind 1 A E8 s1_))) + (Int32.ofNat (own_ind 2 A E8 s2_))) + (Int32.ofNat (own_ind 3 A E8 s3_))) + (Int32.ofNat (own_ind 4 A E8 s4_))))])) t → Steps p.tables e below (s₁.setTop (entryFrame m #[(.long q1), (.int p2)] maxLocals)) t := J174
  obtain ⟨_, _, ⟨T176, L176, k176, n176⟩, -, X176, ⟨Lc176, hQ176, l176, y176, z176⟩, st176⟩ := Jvm.LawKit.callS X171 hx (y := (⟨"com/example/wisteria/wisteria/value/TextValueCharacterCountBeforeNulPinLaw", "one", "(IIIZ)I"⟩ : MethodName)) hown (mvT hZ (hw _ (List.mem_of_getElem? (i := 12) rfl))) (mvT hZ (hw _ (List.mem_of_getElem? (i := 13) rfl))) (mvT hZ (hw _ (List.mem_of_getElem? (i := 4) rfl))) (mvT hZ (hw _ (List.mem_of_getElem? (i := 14) rfl))) (by decide) (backOf (W := 1) (rm4 l Z a0 hw [] 5 A E8 s5_ h42 n0 Z44 (by decide) hA (by rw [qE8]; exact own_e_le hB 8)) hZ (hw _ (List.mem_of_getElem? (i := 14) rfl)) (hw _ (List.mem_of_getElem? (i := 4) rfl)) (by decide) (by decide)) (g := (mkF m 346 #[.val (.long q1), .second, .val (.int p2), .val (.ref b2), .val (.int (Int32.ofNat A)), .val (.int (Int32.ofNat B)), .val (.int (Int32.ofNat E8)), .val (.int (own_b2i s0_)), .val (.int (own_b2i s1_)), .val (.int (own_b2i s2_)), .val (.int (own_b2i s3_)), .val (.int (own_b2i s4_)), .val (.int (own_b2i s5_)), .val (.int (own_b2i s6_)), .val (.int (own_b2i s7_)), .unset, .unset] [(.int (own_b2i s5_)), (.int (Int32.ofNat E8)), (.int (Int32.ofNat A)), (.int (Int32.ofNat 5)), (.int (((((Int32.ofNat (own_ind 0 A E8 s0_)) + (Int32.ofNat (own_ind 1 A E8 s1_))) + (Int32.ofNat (own_ind 2 A E8 s2_))) + (Int32.ofNat (own_ind 3 A E8 s3_))) + (Int32.ofNat (own_ind 4 A E8 s4_))))])) rfl (by rw [hml]; rfl) (argsL := [(.int (Int32.ofNat 5)), (.int (Int32.ofNat A)), (.int (Int32.ofNat E8)), (.int (own_b2i s5_))]) (rest := [(.int (((((Int32.ofNat (own_ind 0 A E8 s0_)) + (Int32.ofNat (own_ind 1 A E8 s1_))) + (Int32.ofNat (own_ind 2 A E8 s2_))) + (Int32.ofNat (own_ind 3 A E8 s3_))) + (Int32.ofNat (own_ind 4 A E8 s4_))))]) (lenOf pd_5 rfl) rfl (by show 2 * 0 + _ ≤ _; exact Nat.le_of_eq rfl) (hb hby at_346) (fun _ _ => ⟨rfl, e171, (by decide : 1 + 0 ≤ _), (by decide : 8 + 0 ≤ _)⟩)
  dsimp only [Pt.U, Pt.locs, Pt.cells, Pt.slots] at X176 l176 y176 z176 st176 hQ176
  subst y176 z176
  obtain ⟨rfl, Nq176, e176⟩ := hQ176
  have N177 : Fr n0 L176 := by rw [l176]; exact Fr.app N172 Nq176
  have J178 : ∀ t, Steps p.tables e below (T176.setTop (mkF m 349 #[.val (.long q1), .second, .val (.int p2), .val (.ref b2), .val (.int (Int32.ofNat A)), .val (.int (Int32.ofNat B)), .val (.int (Int32.ofNat E8)), .val (.int (own_b2i s0_)), .val (.int (own_b2i s1_)), .val (.int (own_b2i s2_)), .val (.int (own_b2i s3_)), .val (.int (own_b2i s4_)), .val (.int (own_b2i s5_)), .val (.int (own_b2i s6_)), .val (.int (own_b2i s7_)), .unset, .unset] [(.int (Int32.ofNat (own_ind 5 A E8 s5_))), (.int (((((Int32.ofNat (own_ind 0 A E8 s0_)) + (Int32.ofNat (own_ind 1 A E8 s1_))) + (Int32.ofNat (own_ind 2 A E8 s2_))) + (Int32.ofNat (own_ind 3 A E8 s3_))) + (Int32.ofNat (own_ind 4 A E8 s4_))))])) t → Steps p.tables e below (s₁.setTop (entryFrame m #[(.long q1), (.int p2)] maxLocals)) t := fun t k => J175 t (st176 t k)
  have J179 : ∀ t, Steps p.tables e below (T176.setTop (mkF m 358 #[.val (.long q1), .second, .val (.int p2), .val (.ref b2), .val (.int (Int32.ofNat A)), .val (.int (Int32.ofNat B)), .val (.int (Int32.ofNat E8)), .val (.int (own_b2i s0_)), .val (.int (own_b2i s1_)), .val (.int (own_b2i s2_)), .val (.int (own_b2i s3_)), .val (.int (own_b2i s4_)), .val (.int (own_b2i s5_)), .val (.int (own_b2i s6_)), .val (.int (own_b2i s7_)), .unset, .unset] [(.int (own_b2i s6_)), (.int (Int32.ofNat E8)), (.int (Int32.ofNat A)), (.int (6 : Int32)), (.int ((((((Int32.ofNat (own_ind 0 A E8 s0_)) + (Int32.ofNat (own_ind 1 A E8 s1_))) + (Int32.ofNat (own_ind 2 A E8 s2_))) + (Int32.ofNat (own_ind 3 A E8 s3_))) + (Int32.ofNat (own_ind 4 A E8 s4_))) + (Int32.ofNat (own_ind 5 A E8 s5_))))])) t → Steps p.tables e below (s₁.setTop (entryFrame m #[(.long q1), (.int p2)] maxLocals)) t := fun t k => J178 t (by
      show Steps p.tables e below (T176.setTop (mkF m 349 #[.val (.long q1), .second, .val (.int p2), .val (.ref b2), .val (.int (Int32.ofNat A)), .val (.int (Int32.ofNat B)), .val (.int (Int32.ofNat E8)), .val (.int (own_b2i s0_)), .val (.int (own_b2i s1_)), .val (.int (own_b2i s2_)), .val (.int (own_b2i s3_)), .val (.int (own_b2i s4_)), .val (.int (own_b2i s5_)), .val (.int (own_b2i s6_)), .val (.int (own_b2i s7_)), .unset, .unset] [(.int (Int32.ofNat (own_ind 5 A E8 s5_))), (.int (((((Int32.ofNat (own_ind 0 A E8 s0_)) + (Int32.ofNat (own_ind 1 A E8 s1_))) + (Int32.ofNat (own_ind 2 A E8 s2_))) + (Int32.ofNat (own_ind 3 A E8 s3_))) + (Int32.ofNat (own_ind 4 A E8 s4_))))])) _
      refine XS.iadd X176.here hx rfl (hb hby at_349) rfl ?_
      show Steps p.tables e below (T176.setTop (mkF m 350 #[.val (.long q1), .second, .val (.int p2), .val (.ref b2), .val (.int (Int32.ofNat A)), .val (.int (Int32.ofNat B)), .val (.int (Int32.ofNat E8)), .val (.int (own_b2i s0_)), .val (.int (own_b2i s1_)), .val (.int (own_b2i s2_)), .val (.int (own_b2i s3_)), .val (.int (own_b2i s4_)), .val (.int (own_b2i s5_)), .val (.int (own_b2i s6_)), .val (.int (own_b2i s7_)), .unset, .unset] [(.int ((((((Int32.ofNat (own_ind 0 A E8 s0_)) + (Int32.ofNat (own_ind 1 A E8 s1_))) + (Int32.ofNat (own_ind 2 A E8 s2_))) + (Int32.ofNat (own_ind 3 A E8 s3_))) + (Int32.ofNat (own_ind 4 A E8 s4_))) + (Int32.ofNat (own_ind 5 A E8 s5_))))])) _
      refine XS.bipush X176.here hx rfl (hb hby at_350) ?_
      show Steps p.tables e below (T176.setTop (mkF m 352 #[.val (.long q1), .second, .val (.int p2), .val (.ref b2), .val (.int (Int32.ofNat A)), .val (.int (Int32.ofNat B)), .val (.int (Int32.ofNat E8)), .val (.int (own_b2i s0_)), .val (.int (own_b2i s1_)), .val (.int (own_b2i s2_)), .val (.int (own_b2i s3_)), .val (.int (own_b2i s4_)), .val (.int (own_b2i s5_)), .val (.int (own_b2i s6_)), .val (.int (own_b2i s7_)), .unset, .unset] [(.int (6 : Int32)), (.int ((((((Int32.ofNat (own_ind 0 A E8 s0_)) + (Int32.ofNat (own_ind 1 A E8 s1_))) + (Int32.ofNat (own_ind 2 A E8 s2_))) + (Int32.ofNat (own_ind 3 A E8 s3_))) + (Int32.ofNat (own_ind 4 A E8 s4_))) + (Int32.ofNat (own_ind 5 A E8 s5_))))])) _
      refine XS.iload X176.here hx rfl (hb hby at_352) rfl ?_
      show Steps p.tables e below (T176.setTop (mkF m 354 #[.val (.long q1), .second, .val (.int p2), .val (.ref b2), .val (.int (Int32.ofNat A)), .val (.int (Int32.ofNat B)), .val (.int (Int32.ofNat E8)), .val (.int (own_b2i s0_)), .val (.int (own_b2i s1_)), .val (.int (own_b2i s2_)), .val (.int (own_b2i s3_)), .val (.int (own_b2i s4_)), .val (.int (own_b2i s5_)), .val (.int (own_b2i s6_)), .val (.int (own_b2i s7_)), .unset, .unset] [(.int (Int32.ofNat A)), (.int (6 : Int32)), (.int ((((((Int32.ofNat (own_ind 0 A E8 s0_)) + (Int32.ofNat (own_ind 1 A E8 s1_))) + (Int32.ofNat (own_ind 2 A E8 s2_))) + (Int32.ofNat (own_ind 3 A E8 s3_))) + (Int32.ofNat (own_ind 4 A E8 s4_))) + (Int32.ofNat (own_ind 5 A E8 s5_))))])) _
      refine XS.iload X176.here hx rfl (hb hby at_354) rfl ?_
      show Steps p.tables e below (T176.setTop (mkF m 356 #[.val (.long q1), .second, .val (.int p2), .val (.ref b2), .val (.int (Int32.ofNat A)), .val (.int (Int32.ofNat B)), .val (.int (Int32.ofNat E8)), .val (.int (own_b2i s0_)), .val (.int (own_b2i s1_)), .val (.int (own_b2i s2_)), .val (.int (own_b2i s3_)), .val (.int (own_b2i s4_)), .val (.int (own_b2i s5_)), .val (.int (own_b2i s6_)), .val (.int (own_b2i s7_)), .unset, .unset] [(.int (Int32.ofNat E8)), (.int (Int32.ofNat A)), (.int (6 : Int32)), (.int ((((((Int32.ofNat (own_ind 0 A E8 s0_)) + (Int32.ofNat (own_ind 1 A E8 s1_))) + (Int32.ofNat (own_ind 2 A E8 s2_))) + (Int32.ofNat (own_ind 3 A E8 s3_))) + (Int32.ofNat (own_ind 4 A E8 s4_))) + (Int32.ofNat (own_ind 5 A E8 s5_))))])) _
      refine XS.iload X176.here hx rfl (hb hby at_356) rfl ?_
      exact k)
  have J180 : ∀ t, Steps p.tables e below (T176.setTop (mkF m 358 #[.val (.long q1), .second, .val (.int p2), .val (.ref b2), .val (.int (Int32.ofNat A)), .val (.int (Int32.ofNat B)), .val (.int (Int32.ofNat E8)), .val (.int (own_b2i s0_)), .val (.int (own_b2i s1_)), .val (.int (own_b2i s2_)), .val (.int (own_b2i s3_)), .val (.int (own_b2i s4_)), .val (.int (own_b2i s5_)), .val (.int (own_b2i s6_)), .val (.int (own_b2i s7_)), .unset, .unset] [(.int (own_b2i s6_)), (.int (Int32.ofNat E8)), (.int (Int32.ofNat A)), (.int (Int32.ofNat 6)), (.int ((((((Int32.ofNat (own_ind 0 A E8 s0_)) + (Int32.ofNat (own_ind 1 A E8 s1_))) + (Int32.ofNat (own_ind 2 A E8 s2_))) + (Int32.ofNat (own_ind 3 A E8 s3_))) + (Int32.ofNat (own_ind 4 A E8 s4_))) + (Int32.ofNat (own_ind 5 A E8 s5_))))])) t → Steps p.tables e below (s₁.setTop (entryFrame m #[(.long q1), (.int p2)] maxLocals)) t := J179
  obtain ⟨_, _, ⟨T181, L181, k181, n181⟩, -, X181, ⟨Lc181, hQ181, l181, y181, z181⟩, st181⟩ := Jvm.LawKit.callS X176 hx (y := (⟨"com/example/wisteria/wisteria/value/TextValueCharacterCountBeforeNulPinLaw", "one", "(IIIZ)I"⟩ : MethodName)) hown (mvT hZ (hw _ (List.mem_of_getElem? (i := 12) rfl))) (mvT hZ (hw _ (List.mem_of_getElem? (i := 13) rfl))) (mvT hZ (hw _ (List.mem_of_getElem? (i := 4) rfl))) (mvT hZ (hw _ (List.mem_of_getElem? (i := 14) rfl))) (by decide) (backOf (W := 1) (rm4 l Z a0 hw [] 6 A E8 s6_ h42 n0 Z44 (by decide) hA (by rw [qE8]; exact own_e_le hB 8)) hZ (hw _ (List.mem_of_getElem? (i := 14) rfl)) (hw _ (List.mem_of_getElem? (i := 4) rfl)) (by decide) (by decide)) (g := (mkF m 358 #[.val (.long q1), .second, .val (.int p2), .val (.ref b2), .val (.int (Int32.ofNat A)), .val (.int (Int32.ofNat B)), .val (.int (Int32.ofNat E8)), .val (.int (own_b2i s0_)), .val (.int (own_b2i s1_)), .val (.int (own_b2i s2_)), .val (.int (own_b2i s3_)), .val (.int (own_b2i s4_)), .val (.int (own_b2i s5_)), .val (.int (own_b2i s6_)), .val (.int (own_b2i s7_)), .unset, .unset] [(.int (own_b2i s6_)), (.int (Int32.ofNat E8)), (.int (Int32.ofNat A)), (.int (Int32.ofNat 6)), (.int ((((((Int32.ofNat (own_ind 0 A E8 s0_)) + (Int32.ofNat (own_ind 1 A E8 s1_))) + (Int32.ofNat (own_ind 2 A E8 s2_))) + (Int32.ofNat (own_ind 3 A E8 s3_))) + (Int32.ofNat (own_ind 4 A E8 s4_))) + (Int32.ofNat (own_ind 5 A E8 s5_))))])) rfl (by rw [hml]; rfl) (argsL := [(.int (Int32.ofNat 6)), (.int (Int32.ofNat A)), (.int (Int32.ofNat E8)), (.int (own_b2i s6_))]) (rest := [(.int ((((((Int32.ofNat (own_ind 0 A E8 s0_)) + (Int32.ofNat (own_ind 1 A E8 s1_))) + (Int32.ofNat (own_ind 2 A E8 s2_))) + (Int32.ofNat (own_ind 3 A E8 s3_))) + (Int32.ofNat (own_ind 4 A E8 s4_))) + (Int32.ofNat (own_ind 5 A E8 s5_))))]) (lenOf pd_5 rfl) rfl (by show 2 * 0 + _ ≤ _; exact Nat.le_of_eq rfl) (hb hby at_358) (fun _ _ => ⟨rfl, e176, (by decide : 1 + 0 ≤ _), (by decide : 8 + 0 ≤ _)⟩)
  dsimp only [Pt.U, Pt.locs, Pt.cells, Pt.slots] at X181 l181 y181 z181 st181 hQ181
  subst y181 z181
  obtain ⟨rfl, Nq181, e181⟩ := hQ181
  have N182 : Fr n0 L181 := by rw [l181]; exact Fr.app N177 Nq181
  have J183 : ∀ t, Steps p.tables e below (T181.setTop (mkF m 361 #[.val (.long q1), .second, .val (.int p2), .val (.ref b2), .val (.int (Int32.ofNat A)), .val (.int (Int32.ofNat B)), .val (.int (Int32.ofNat E8)), .val (.int (own_b2i s0_)), .val (.int (own_b2i s1_)), .val (.int (own_b2i s2_)), .val (.int (own_b2i s3_)), .val (.int (own_b2i s4_)), .val (.int (own_b2i s5_)), .val (.int (own_b2i s6_)), .val (.int (own_b2i s7_)), .unset, .unset] [(.int (Int32.ofNat (own_ind 6 A E8 s6_))), (.int ((((((Int32.ofNat (own_ind 0 A E8 s0_)) + (Int32.ofNat (own_ind 1 A E8 s1_))) + (Int32.ofNat (own_ind 2 A E8 s2_))) + (Int32.ofNat (own_ind 3 A E8 s3_))) + (Int32.ofNat (own_ind 4 A E8 s4_))) + (Int32.ofNat (own_ind 5 A E8 s5_))))])) t → Steps p.tables e below (s₁.setTop (entryFrame m #[(.long q1), (.int p2)] maxLocals)) t := fun t k => J180 t (st181 t k)
  have J184 : ∀ t, Steps p.tables e below (T181.setTop (mkF m 370 #[.val (.long q1), .second, .val (.int p2), .val (.ref b2), .val (.int (Int32.ofNat A)), .val (.int (Int32.ofNat B)), .val (.int (Int32.ofNat E8)), .val (.int (own_b2i s0_)), .val (.int (own_b2i s1_)), .val (.int (own_b2i s2_)), .val (.int (own_b2i s3_)), .val (.int (own_b2i s4_)), .val (.int (own_b2i s5_)), .val (.int (own_b2i s6_)), .val (.int (own_b2i s7_)), .unset, .unset] [(.int (own_b2i s7_)), (.int (Int32.ofNat E8)), (.int (Int32.ofNat A)), (.int (7 : Int32)), (.int (((((((Int32.ofNat (own_ind 0 A E8 s0_)) + (Int32.ofNat (own_ind 1 A E8 s1_))) + (Int32.ofNat (own_ind 2 A E8 s2_))) + (Int32.ofNat (own_ind 3 A E8 s3_))) + (Int32.ofNat (own_ind 4 A E8 s4_))) + (Int32.ofNat (own_ind 5 A E8 s5_))) + (Int32.ofNat (own_ind 6 A E8 s6_))))])) t → Steps p.tables e below (s₁.setTop (entryFrame m #[(.long q1), (.int p2)] maxLocals)) t := fun t k => J183 t (by
      show Steps p.tables e below (T181.setTop (mkF m 361 #[.val (.long q1), .second, .val (.int p2), .val (.ref b2), .val (.int (Int32.ofNat A)), .val (.int (Int32.ofNat B)), .val (.int (Int32.ofNat E8)), .val (.int (own_b2i s0_)), .val (.int (own_b2i s1_)), .val (.int (own_b2i s2_)), .val (.int (own_b2i s3_)), .val (.int (own_b2i s4_)), .val (.int (own_b2i s5_)), .val (.int (own_b2i s6_)), .val (.int (own_b2i s7_)), .unset, .unset] [(.int (Int32.ofNat (own_ind 6 A E8 s6_))), (.int ((((((Int32.ofNat (own_ind 0 A E8 s0_)) + (Int32.ofNat (own_ind 1 A E8 s1_))) + (Int32.ofNat (own_ind 2 A E8 s2_))) + (Int32.ofNat (own_ind 3 A E8 s3_))) + (Int32.ofNat (own_ind 4 A E8 s4_))) + (Int32.ofNat (own_ind 5 A E8 s5_))))])) _
      refine XS.iadd X181.here hx rfl (hb hby at_361) rfl ?_
      show Steps p.tables e below (T181.setTop (mkF m 362 #[.val (.long q1), .second, .val (.int p2), .val (.ref b2), .val (.int (Int32.ofNat A)), .val (.int (Int32.ofNat B)), .val (.int (Int32.ofNat E8)), .val (.int (own_b2i s0_)), .val (.int (own_b2i s1_)), .val (.int (own_b2i s2_)), .val (.int (own_b2i s3_)), .val (.int (own_b2i s4_)), .val (.int (own_b2i s5_)), .val (.int (own_b2i s6_)), .val (.int (own_b2i s7_)), .unset, .unset] [(.int (((((((Int32.ofNat (own_ind 0 A E8 s0_)) + (Int32.ofNat (own_ind 1 A E8 s1_))) + (Int32.ofNat (own_ind 2 A E8 s2_))) + (Int32.ofNat (own_ind 3 A E8 s3_))) + (Int32.ofNat (own_ind 4 A E8 s4_))) + (Int32.ofNat (own_ind 5 A E8 s5_))) + (Int32.ofNat (own_ind 6 A E8 s6_))))])) _
      refine XS.bipush X181.here hx rfl (hb hby at_362) ?_
      show Steps p.tables e below (T181.setTop (mkF m 364 #[.val (.long q1), .second, .val (.int p2), .val (.ref b2), .val (.int (Int32.ofNat A)), .val (.int (Int32.ofNat B)), .val (.int (Int32.ofNat E8)), .val (.int (own_b2i s0_)), .val (.int (own_b2i s1_)), .val (.int (own_b2i s2_)), .val (.int (own_b2i s3_)), .val (.int (own_b2i s4_)), .val (.int (own_b2i s5_)), .val (.int (own_b2i s6_)), .val (.int (own_b2i s7_)), .unset, .unset] [(.int (7 : Int32)), (.int (((((((Int32.ofNat (own_ind 0 A E8 s0_)) + (Int32.ofNat (own_ind 1 A E8 s1_))) + (Int32.ofNat (own_ind 2 A E8 s2_))) + (Int32.ofNat (own_ind 3 A E8 s3_))) + (Int32.ofNat (own_ind 4 A E8 s4_))) + (Int32.ofNat (own_ind 5 A E8 s5_))) + (Int32.ofNat (own_ind 6 A E8 s6_))))])) _
      refine XS.iload X181.here hx rfl (hb hby at_364) rfl ?_
      show Steps p.tables e below (T181.setTop (mkF m 366 #[.val (.long q1), .second, .val (.int p2), .val (.ref b2), .val (.int (Int32.ofNat A)), .val (.int (Int32.ofNat B)), .val (.int (Int32.ofNat E8)), .val (.int (own_b2i s0_)), .val (.int (own_b2i s1_)), .val (.int (own_b2i s2_)), .val (.int (own_b2i s3_)), .val (.int (own_b2i s4_)), .val (.int (own_b2i s5_)), .val (.int (own_b2i s6_)), .val (.int (own_b2i s7_)), .unset, .unset] [(.int (Int32.ofNat A)), (.int (7 : Int32)), (.int (((((((Int32.ofNat (own_ind 0 A E8 s0_)) + (Int32.ofNat (own_ind 1 A E8 s1_))) + (Int32.ofNat (own_ind 2 A E8 s2_))) + (Int32.ofNat (own_ind 3 A E8 s3_))) + (Int32.ofNat (own_ind 4 A E8 s4_))) + (Int32.ofNat (own_ind 5 A E8 s5_))) + (Int32.ofNat (own_ind 6 A E8 s6_))))])) _
      refine XS.iload X181.here hx rfl (hb hby at_366) rfl ?_
      show Steps p.tables e below (T181.setTop (mkF m 368 #[.val (.long q1), .second, .val (.int p2), .val (.ref b2), .val (.int (Int32.ofNat A)), .val (.int (Int32.ofNat B)), .val (.int (Int32.ofNat E8)), .val (.int (own_b2i s0_)), .val (.int (own_b2i s1_)), .val (.int (own_b2i s2_)), .val (.int (own_b2i s3_)), .val (.int (own_b2i s4_)), .val (.int (own_b2i s5_)), .val (.int (own_b2i s6_)), .val (.int (own_b2i s7_)), .unset, .unset] [(.int (Int32.ofNat E8)), (.int (Int32.ofNat A)), (.int (7 : Int32)), (.int (((((((Int32.ofNat (own_ind 0 A E8 s0_)) + (Int32.ofNat (own_ind 1 A E8 s1_))) + (Int32.ofNat (own_ind 2 A E8 s2_))) + (Int32.ofNat (own_ind 3 A E8 s3_))) + (Int32.ofNat (own_ind 4 A E8 s4_))) + (Int32.ofNat (own_ind 5 A E8 s5_))) + (Int32.ofNat (own_ind 6 A E8 s6_))))])) _
      refine XS.iload X181.here hx rfl (hb hby at_368) rfl ?_
      exact k)
  have J185 : ∀ t, Steps p.tables e below (T181.setTop (mkF m 370 #[.val (.long q1), .second, .val (.int p2), .val (.ref b2), .val (.int (Int32.ofNat A)), .val (.int (Int32.ofNat B)), .val (.int (Int32.ofNat E8)), .val (.int (own_b2i s0_)), .val (.int (own_b2i s1_)), .val (.int (own_b2i s2_)), .val (.int (own_b2i s3_)), .val (.int (own_b2i s4_)), .val (.int (own_b2i s5_)), .val (.int (own_b2i s6_)), .val (.int (own_b2i s7_)), .unset, .unset] [(.int (own_b2i s7_)), (.int (Int32.ofNat E8)), (.int (Int32.ofNat A)), (.int (Int32.ofNat 7)), (.int (((((((Int32.ofNat (own_ind 0 A E8 s0_)) + (Int32.ofNat (own_ind 1 A E8 s1_))) + (Int32.ofNat (own_ind 2 A E8 s2_))) + (Int32.ofNat (own_ind 3 A E8 s3_))) + (Int32.ofNat (own_ind 4 A E8 s4_))) + (Int32.ofNat (own_ind 5 A E8 s5_))) + (Int32.ofNat (own_ind 6 A E8 s6_))))])) t → Steps p.tables e below (s₁.setTop (entryFrame m #[(.long q1), (.int p2)] maxLocals)) t := J184
  obtain ⟨_, _, ⟨T186, L186, k186, n186⟩, -, X186, ⟨Lc186, hQ186, l186, y186, z186⟩, st186⟩ := Jvm.LawKit.callS X181 hx (y := (⟨"com/example/wisteria/wisteria/value/TextValueCharacterCountBeforeNulPinLaw", "one", "(IIIZ)I"⟩ : MethodName)) hown (mvT hZ (hw _ (List.mem_of_getElem? (i := 12) rfl))) (mvT hZ (hw _ (List.mem_of_getElem? (i := 13) rfl))) (mvT hZ (hw _ (List.mem_of_getElem? (i := 4) rfl))) (mvT hZ (hw _ (List.mem_of_getElem? (i := 14) rfl))) (by decide) (backOf (W := 1) (rm4 l Z a0 hw [] 7 A E8 s7_ h42 n0 Z44 (by decide) hA (by rw [qE8]; exact own_e_le hB 8)) hZ (hw _ (List.mem_of_getElem? (i := 14) rfl)) (hw _ (List.mem_of_getElem? (i := 4) rfl)) (by decide) (by decide)) (g := (mkF m 370 #[.val (.long q1), .second, .val (.int p2), .val (.ref b2), .val (.int (Int32.ofNat A)), .val (.int (Int32.ofNat B)), .val (.int (Int32.ofNat E8)), .val (.int (own_b2i s0_)), .val (.int (own_b2i s1_)), .val (.int (own_b2i s2_)), .val (.int (own_b2i s3_)), .val (.int (own_b2i s4_)), .val (.int (own_b2i s5_)), .val (.int (own_b2i s6_)), .val (.int (own_b2i s7_)), .unset, .unset] [(.int (own_b2i s7_)), (.int (Int32.ofNat E8)), (.int (Int32.ofNat A)), (.int (Int32.ofNat 7)), (.int (((((((Int32.ofNat (own_ind 0 A E8 s0_)) + (Int32.ofNat (own_ind 1 A E8 s1_))) + (Int32.ofNat (own_ind 2 A E8 s2_))) + (Int32.ofNat (own_ind 3 A E8 s3_))) + (Int32.ofNat (own_ind 4 A E8 s4_))) + (Int32.ofNat (own_ind 5 A E8 s5_))) + (Int32.ofNat (own_ind 6 A E8 s6_))))])) rfl (by rw [hml]; rfl) (argsL := [(.int (Int32.ofNat 7)), (.int (Int32.ofNat A)), (.int (Int32.ofNat E8)), (.int (own_b2i s7_))]) (rest := [(.int (((((((Int32.ofNat (own_ind 0 A E8 s0_)) + (Int32.ofNat (own_ind 1 A E8 s1_))) + (Int32.ofNat (own_ind 2 A E8 s2_))) + (Int32.ofNat (own_ind 3 A E8 s3_))) + (Int32.ofNat (own_ind 4 A E8 s4_))) + (Int32.ofNat (own_ind 5 A E8 s5_))) + (Int32.ofNat (own_ind 6 A E8 s6_))))]) (lenOf pd_5 rfl) rfl (by show 2 * 0 + _ ≤ _; exact Nat.le_of_eq rfl) (hb hby at_370) (fun _ _ => ⟨rfl, e181, (by decide : 1 + 0 ≤ _), (by decide : 8 + 0 ≤ _)⟩)
  dsimp only [Pt.U, Pt.locs, Pt.cells, Pt.slots] at X186 l186 y186 z186 st186 hQ186
  subst y186 z186
  obtain ⟨rfl, Nq186, e186⟩ := hQ186
  have N187 : Fr n0 L186 := by rw [l186]; exact Fr.app N182 Nq186
  have J188 : ∀ t, Steps p.tables e below (T186.setTop (mkF m 373 #[.val (.long q1), .second, .val (.int p2), .val (.ref b2), .val (.int (Int32.ofNat A)), .val (.int (Int32.ofNat B)), .val (.int (Int32.ofNat E8)), .val (.int (own_b2i s0_)), .val (.int (own_b2i s1_)), .val (.int (own_b2i s2_)), .val (.int (own_b2i s3_)), .val (.int (own_b2i s4_)), .val (.int (own_b2i s5_)), .val (.int (own_b2i s6_)), .val (.int (own_b2i s7_)), .unset, .unset] [(.int (Int32.ofNat (own_ind 7 A E8 s7_))), (.int (((((((Int32.ofNat (own_ind 0 A E8 s0_)) + (Int32.ofNat (own_ind 1 A E8 s1_))) + (Int32.ofNat (own_ind 2 A E8 s2_))) + (Int32.ofNat (own_ind 3 A E8 s3_))) + (Int32.ofNat (own_ind 4 A E8 s4_))) + (Int32.ofNat (own_ind 5 A E8 s5_))) + (Int32.ofNat (own_ind 6 A E8 s6_))))])) t → Steps p.tables e below (s₁.setTop (entryFrame m #[(.long q1), (.int p2)] maxLocals)) t := fun t k => J185 t (st186 t k)
  have J189 : ∀ t, Steps p.tables e below (T186.setTop (mkF m 376 #[.val (.long q1), .second, .val (.int p2), .val (.ref b2), .val (.int (Int32.ofNat A)), .val (.int (Int32.ofNat B)), .val (.int (Int32.ofNat E8)), .val (.int (own_b2i s0_)), .val (.int (own_b2i s1_)), .val (.int (own_b2i s2_)), .val (.int (own_b2i s3_)), .val (.int (own_b2i s4_)), .val (.int (own_b2i s5_)), .val (.int (own_b2i s6_)), .val (.int (own_b2i s7_)), .val (.int ((((((((Int32.ofNat (own_ind 0 A E8 s0_)) + (Int32.ofNat (own_ind 1 A E8 s1_))) + (Int32.ofNat (own_ind 2 A E8 s2_))) + (Int32.ofNat (own_ind 3 A E8 s3_))) + (Int32.ofNat (own_ind 4 A E8 s4_))) + (Int32.ofNat (own_ind 5 A E8 s5_))) + (Int32.ofNat (own_ind 6 A E8 s6_))) + (Int32.ofNat (own_ind 7 A E8 s7_)))), .unset] [])) t → Steps p.tables e below (s₁.setTop (entryFrame m #[(.long q1), (.int p2)] maxLocals)) t := fun t k => J188 t (by
      show Steps p.tables e below (T186.setTop (mkF m 373 #[.val (.long q1), .second, .val (.int p2), .val (.ref b2), .val (.int (Int32.ofNat A)), .val (.int (Int32.ofNat B)), .val (.int (Int32.ofNat E8)), .val (.int (own_b2i s0_)), .val (.int (own_b2i s1_)), .val (.int (own_b2i s2_)), .val (.int (own_b2i s3_)), .val (.int (own_b2i s4_)), .val (.int (own_b2i s5_)), .val (.int (own_b2i s6_)), .val (.int (own_b2i s7_)), .unset, .unset] [(.int (Int32.ofNat (own_ind 7 A E8 s7_))), (.int (((((((Int32.ofNat (own_ind 0 A E8 s0_)) + (Int32.ofNat (own_ind 1 A E8 s1_))) + (Int32.ofNat (own_ind 2 A E8 s2_))) + (Int32.ofNat (own_ind 3 A E8 s3_))) + (Int32.ofNat (own_ind 4 A E8 s4_))) + (Int32.ofNat (own_ind 5 A E8 s5_))) + (Int32.ofNat (own_ind 6 A E8 s6_))))])) _
      refine XS.iadd X186.here hx rfl (hb hby at_373) rfl ?_
      show Steps p.tables e below (T186.setTop (mkF m 374 #[.val (.long q1), .second, .val (.int p2), .val (.ref b2), .val (.int (Int32.ofNat A)), .val (.int (Int32.ofNat B)), .val (.int (Int32.ofNat E8)), .val (.int (own_b2i s0_)), .val (.int (own_b2i s1_)), .val (.int (own_b2i s2_)), .val (.int (own_b2i s3_)), .val (.int (own_b2i s4_)), .val (.int (own_b2i s5_)), .val (.int (own_b2i s6_)), .val (.int (own_b2i s7_)), .unset, .unset] [(.int ((((((((Int32.ofNat (own_ind 0 A E8 s0_)) + (Int32.ofNat (own_ind 1 A E8 s1_))) + (Int32.ofNat (own_ind 2 A E8 s2_))) + (Int32.ofNat (own_ind 3 A E8 s3_))) + (Int32.ofNat (own_ind 4 A E8 s4_))) + (Int32.ofNat (own_ind 5 A E8 s5_))) + (Int32.ofNat (own_ind 6 A E8 s6_))) + (Int32.ofNat (own_ind 7 A E8 s7_))))])) _
      refine XS.istore X186.here hx rfl (hb hby at_374) rfl (l' := #[.val (.long q1), .second, .val (.int p2), .val (.ref b2), .val (.int (Int32.ofNat A)), .val (.int (Int32.ofNat B)), .val (.int (Int32.ofNat E8)), .val (.int (own_b2i s0_)), .val (.int (own_b2i s1_)), .val (.int (own_b2i s2_)), .val (.int (own_b2i s3_)), .val (.int (own_b2i s4_)), .val (.int (own_b2i s5_)), .val (.int (own_b2i s6_)), .val (.int (own_b2i s7_)), .val (.int ((((((((Int32.ofNat (own_ind 0 A E8 s0_)) + (Int32.ofNat (own_ind 1 A E8 s1_))) + (Int32.ofNat (own_ind 2 A E8 s2_))) + (Int32.ofNat (own_ind 3 A E8 s3_))) + (Int32.ofNat (own_ind 4 A E8 s4_))) + (Int32.ofNat (own_ind 5 A E8 s5_))) + (Int32.ofNat (own_ind 6 A E8 s6_))) + (Int32.ofNat (own_ind 7 A E8 s7_)))), .unset]) rfl ?_
      exact k)
  obtain ⟨ex_, hex_⟩ : ∃ z : Int32, z = ((((((((Int32.ofNat (own_ind 0 A E8 s0_)) + (Int32.ofNat (own_ind 1 A E8 s1_))) + (Int32.ofNat (own_ind 2 A E8 s2_))) + (Int32.ofNat (own_ind 3 A E8 s3_))) + (Int32.ofNat (own_ind 4 A E8 s4_))) + (Int32.ofNat (own_ind 5 A E8 s5_))) + (Int32.ofNat (own_ind 6 A E8 s6_))) + (Int32.ofNat (own_ind 7 A E8 s7_))) := ⟨_, rfl⟩
  have J190 : ∀ t, Steps p.tables e below (T186.setTop (mkF m 376 #[.val (.long q1), .second, .val (.int p2), .val (.ref b2), .val (.int (Int32.ofNat A)), .val (.int (Int32.ofNat B)), .val (.int (Int32.ofNat E8)), .val (.int (own_b2i s0_)), .val (.int (own_b2i s1_)), .val (.int (own_b2i s2_)), .val (.int (own_b2i s3_)), .val (.int (own_b2i s4_)), .val (.int (own_b2i s5_)), .val (.int (own_b2i s6_)), .val (.int (own_b2i s7_)), .val (.int ex_), .unset] [])) t → Steps p.tables e below (s₁.setTop (entryFrame m #[(.long q1), (.int p2)] maxLocals)) t := fun t k => J189 t (by subst hex_; exact k)
  obtain ⟨T191, h191, X191, e191, E191, A191, D191, -, st191⟩ := newO X186 hx hZ hown (hw _ (List.mem_of_getElem? (i := 15) rfl)) (hw _ (List.mem_of_getElem? (i := 16) rfl)) (hw _ (List.mem_of_getElem? (i := 17) rfl)) e186 (g := (mkF m 376 #[.val (.long q1), .second, .val (.int p2), .val (.ref b2), .val (.int (Int32.ofNat A)), .val (.int (Int32.ofNat B)), .val (.int (Int32.ofNat E8)), .val (.int (own_b2i s0_)), .val (.int (own_b2i s1_)), .val (.int (own_b2i s2_)), .val (.int (own_b2i s3_)), .val (.int (own_b2i s4_)), .val (.int (own_b2i s5_)), .val (.int (own_b2i s6_)), .val (.int (own_b2i s7_)), .val (.int ex_), .unset] [])) rfl (hb hby at_376) (by decide) (by decide)
  obtain ⟨b191, g191⟩ : ∃ z, z = h42.size := ⟨_, rfl⟩
  rw [← g191] at A191 D191 st191
  have J192 : ∀ t, Steps p.tables e below (T191.setTop (mkF m 379 #[.val (.long q1), .second, .val (.int p2), .val (.ref b2), .val (.int (Int32.ofNat A)), .val (.int (Int32.ofNat B)), .val (.int (Int32.ofNat E8)), .val (.int (own_b2i s0_)), .val (.int (own_b2i s1_)), .val (.int (own_b2i s2_)), .val (.int (own_b2i s3_)), .val (.int (own_b2i s4_)), .val (.int (own_b2i s5_)), .val (.int (own_b2i s6_)), .val (.int (own_b2i s7_)), .val (.int ex_), .unset] [(.ref b191)])) t → Steps p.tables e below (s₁.setTop (entryFrame m #[(.long q1), (.int p2)] maxLocals)) t := fun t k => J190 t (st191 t k)
  have ne193 : b2 ≠ b191 := Nat.ne_of_lt (Nat.lt_of_lt_of_le Aw42.lt (Nat.le_of_eq g191.symm))
  have ge194 : n0 ≤ b191 := Nat.le_trans Z44 (Nat.le_of_eq g191.symm)
  have Z195 : n0 ≤ h191.size := Nat.le_trans Z44 E191.1
  have F191_bytes : Fld Z h191 b191 "com/example/wisteria/wisteria/value/TextValue" "bytes" "[B" .null := D191 (Or.inr (hw _ (List.mem_of_getElem? (i := 35) rfl))) (ty := (.array .byte)) (by decide)
  have F191_from : Fld Z h191 b191 "com/example/wisteria/wisteria/value/TextValue" "from" "I" (.int (0 : Int32)) := D191 (Or.inr (hw _ (List.mem_of_getElem? (i := 37) rfl))) (ty := .int) (by decide)
  have F191_to : Fld Z h191 b191 "com/example/wisteria/wisteria/value/TextValue" "to" "I" (.int (0 : Int32)) := D191 (Or.inr (hw _ (List.mem_of_getElem? (i := 39) rfl))) (ty := .int) (by decide)
  have J196 : ∀ t, Steps p.tables e below (T191.setTop (mkF m 385 #[.val (.long q1), .second, .val (.int p2), .val (.ref b2), .val (.int (Int32.ofNat A)), .val (.int (Int32.ofNat B)), .val (.int (Int32.ofNat E8)), .val (.int (own_b2i s0_)), .val (.int (own_b2i s1_)), .val (.int (own_b2i s2_)), .val (.int (own_b2i s3_)), .val (.int (own_b2i s4_)), .val (.int (own_b2i s5_)), .val (.int (own_b2i s6_)), .val (.int (own_b2i s7_)), .val (.int ex_), .unset] [(.int (Int32.ofNat B)), (.int (Int32.ofNat A)), (.ref b2), (.ref b191), (.ref b191)])) t → Steps p.tables e below (s₁.setTop (entryFrame m #[(.long q1), (.int p2)] maxLocals)) t := fun t k => J192 t (by
      show Steps p.tables e below (T191.setTop (mkF m 379 #[.val (.long q1), .second, .val (.int p2), .val (.ref b2), .val (.int (Int32.ofNat A)), .val (.int (Int32.ofNat B)), .val (.int (Int32.ofNat E8)), .val (.int (own_b2i s0_)), .val (.int (own_b2i s1_)), .val (.int (own_b2i s2_)), .val (.int (own_b2i s3_)), .val (.int (own_b2i s4_)), .val (.int (own_b2i s5_)), .val (.int (own_b2i s6_)), .val (.int (own_b2i s7_)), .val (.int ex_), .unset] [(.ref b191)])) _
      refine XS.dup X191.here hx rfl (hb hby at_379) rfl rfl ?_
      show Steps p.tables e below (T191.setTop (mkF m 380 #[.val (.long q1), .second, .val (.int p2), .val (.ref b2), .val (.int (Int32.ofNat A)), .val (.int (Int32.ofNat B)), .val (.int (Int32.ofNat E8)), .val (.int (own_b2i s0_)), .val (.int (own_b2i s1_)), .val (.int (own_b2i s2_)), .val (.int (own_b2i s3_)), .val (.int (own_b2i s4_)), .val (.int (own_b2i s5_)), .val (.int (own_b2i s6_)), .val (.int (own_b2i s7_)), .val (.int ex_), .unset] [(.ref b191), (.ref b191)])) _
      refine XS.aloadN X191.here hx rfl (hb hby at_380) rfl rfl ?_
      show Steps p.tables e below (T191.setTop (mkF m 381 #[.val (.long q1), .second, .val (.int p2), .val (.ref b2), .val (.int (Int32.ofNat A)), .val (.int (Int32.ofNat B)), .val (.int (Int32.ofNat E8)), .val (.int (own_b2i s0_)), .val (.int (own_b2i s1_)), .val (.int (own_b2i s2_)), .val (.int (own_b2i s3_)), .val (.int (own_b2i s4_)), .val (.int (own_b2i s5_)), .val (.int (own_b2i s6_)), .val (.int (own_b2i s7_)), .val (.int ex_), .unset] [(.ref b2), (.ref b191), (.ref b191)])) _
      refine XS.iload X191.here hx rfl (hb hby at_381) rfl ?_
      show Steps p.tables e below (T191.setTop (mkF m 383 #[.val (.long q1), .second, .val (.int p2), .val (.ref b2), .val (.int (Int32.ofNat A)), .val (.int (Int32.ofNat B)), .val (.int (Int32.ofNat E8)), .val (.int (own_b2i s0_)), .val (.int (own_b2i s1_)), .val (.int (own_b2i s2_)), .val (.int (own_b2i s3_)), .val (.int (own_b2i s4_)), .val (.int (own_b2i s5_)), .val (.int (own_b2i s6_)), .val (.int (own_b2i s7_)), .val (.int ex_), .unset] [(.int (Int32.ofNat A)), (.ref b2), (.ref b191), (.ref b191)])) _
      refine XS.iload X191.here hx rfl (hb hby at_383) rfl ?_
      exact k)
  obtain ⟨_, _, ⟨T197, L197, k197, n197⟩, -, X197, ⟨Lc197, hQ197, l197, y197, z197⟩, st197⟩ := X191.specialBack hx (y := (⟨"com/example/wisteria/wisteria/value/TextValue", "<init>", "([BII)V"⟩ : MethodName)) rfl hown (mvT hZ (hw _ (List.mem_of_getElem? (i := 18) rfl))) (mvT hZ (hw _ (List.mem_of_getElem? (i := 19) rfl))) (mvT hZ (hw _ (List.mem_of_getElem? (i := 20) rfl))) (by decide) (backOf (W := 1) (rm5 l Z a0 hw [] b191 b2 (Int32.ofNat A) (Int32.ofNat B) .null (.int (0 : Int32)) (.int (0 : Int32)) h191 n0 Z195 A191 ge194 F191_bytes F191_from F191_to (own_len hAB hB)) hZ (hw _ (List.mem_of_getElem? (i := 20) rfl)) (hw _ (List.mem_of_getElem? (i := 17) rfl)) (by decide) (by decide)) (g := (mkF m 385 #[.val (.long q1), .second, .val (.int p2), .val (.ref b2), .val (.int (Int32.ofNat A)), .val (.int (Int32.ofNat B)), .val (.int (Int32.ofNat E8)), .val (.int (own_b2i s0_)), .val (.int (own_b2i s1_)), .val (.int (own_b2i s2_)), .val (.int (own_b2i s3_)), .val (.int (own_b2i s4_)), .val (.int (own_b2i s5_)), .val (.int (own_b2i s6_)), .val (.int (own_b2i s7_)), .val (.int ex_), .unset] [(.int (Int32.ofNat B)), (.int (Int32.ofNat A)), (.ref b2), (.ref b191), (.ref b191)])) rfl (by rw [hml]; rfl) (Steps.refl _) (a := b191) (argsL := [(.ref b2), (.int (Int32.ofNat A)), (.int (Int32.ofNat B))]) (rest := [(.ref b191)]) (lenOf pd_6 rfl) rfl (by show 2 * 0 + _ ≤ _; exact Nat.le_of_eq rfl) (hb hby at_385) (fun _ _ => ⟨rfl, e191, (by decide : 2 + 0 ≤ _), (by decide : 11 + 0 ≤ _)⟩)
  dsimp only [Pt.U, Pt.locs, Pt.cells, Pt.slots] at X197 l197 y197 z197 st197 hQ197
  subst y197 z197
  obtain ⟨rfl, Nq197, K197, p197_1, p197_2, p197_3, p197_4⟩ := hQ197
  have N198 : Fr n0 L197 := by rw [l197]; exact Fr.app N187 Nq197
  have J199 : ∀ t, Steps p.tables e below (T197.setTop (mkF m 388 #[.val (.long q1), .second, .val (.int p2), .val (.ref b2), .val (.int (Int32.ofNat A)), .val (.int (Int32.ofNat B)), .val (.int (Int32.ofNat E8)), .val (.int (own_b2i s0_)), .val (.int (own_b2i s1_)), .val (.int (own_b2i s2_)), .val (.int (own_b2i s3_)), .val (.int (own_b2i s4_)), .val (.int (own_b2i s5_)), .val (.int (own_b2i s6_)), .val (.int (own_b2i s7_)), .val (.int ex_), .unset] [(.ref b191)])) t → Steps p.tables e below (s₁.setTop (entryFrame m #[(.long q1), (.int p2)] maxLocals)) t := fun t k => J196 t (st197.trans k)
  have Z200 : n0 ≤ T197.heap.size := Nat.le_trans Z195 K197.1
  have J201 : ∀ t, Steps p.tables e below (T197.setTop (mkF m 392 #[.val (.long q1), .second, .val (.int p2), .val (.ref b2), .val (.int (Int32.ofNat A)), .val (.int (Int32.ofNat B)), .val (.int (Int32.ofNat E8)), .val (.int (own_b2i s0_)), .val (.int (own_b2i s1_)), .val (.int (own_b2i s2_)), .val (.int (own_b2i s3_)), .val (.int (own_b2i s4_)), .val (.int (own_b2i s5_)), .val (.int (own_b2i s6_)), .val (.int (own_b2i s7_)), .val (.int ex_), .val (.ref b191)] [(.ref b191)])) t → Steps p.tables e below (s₁.setTop (entryFrame m #[(.long q1), (.int p2)] maxLocals)) t := fun t k => J199 t (by
      show Steps p.tables e below (T197.setTop (mkF m 388 #[.val (.long q1), .second, .val (.int p2), .val (.ref b2), .val (.int (Int32.ofNat A)), .val (.int (Int32.ofNat B)), .val (.int (Int32.ofNat E8)), .val (.int (own_b2i s0_)), .val (.int (own_b2i s1_)), .val (.int (own_b2i s2_)), .val (.int (own_b2i s3_)), .val (.int (own_b2i s4_)), .val (.int (own_b2i s5_)), .val (.int (own_b2i s6_)), .val (.int (own_b2i s7_)), .val (.int ex_), .unset] [(.ref b191)])) _
      refine XS.astore X197.here hx rfl (hb hby at_388) rfl rfl (l' := #[.val (.long q1), .second, .val (.int p2), .val (.ref b2), .val (.int (Int32.ofNat A)), .val (.int (Int32.ofNat B)), .val (.int (Int32.ofNat E8)), .val (.int (own_b2i s0_)), .val (.int (own_b2i s1_)), .val (.int (own_b2i s2_)), .val (.int (own_b2i s3_)), .val (.int (own_b2i s4_)), .val (.int (own_b2i s5_)), .val (.int (own_b2i s6_)), .val (.int (own_b2i s7_)), .val (.int ex_), .val (.ref b191)]) rfl ?_
      show Steps p.tables e below (T197.setTop (mkF m 390 #[.val (.long q1), .second, .val (.int p2), .val (.ref b2), .val (.int (Int32.ofNat A)), .val (.int (Int32.ofNat B)), .val (.int (Int32.ofNat E8)), .val (.int (own_b2i s0_)), .val (.int (own_b2i s1_)), .val (.int (own_b2i s2_)), .val (.int (own_b2i s3_)), .val (.int (own_b2i s4_)), .val (.int (own_b2i s5_)), .val (.int (own_b2i s6_)), .val (.int (own_b2i s7_)), .val (.int ex_), .val (.ref b191)] [])) _
      refine XS.aload X197.here hx rfl (hb hby at_390) rfl rfl ?_
      exact k)
  have f202 := Aw42.ext E191
  have f203 := (⟨K197.2.1 _ _ f202.1 (ninS ne193 nin0), f202.2⟩ : Arr Z T197.heap b2 cl42 .byte)
  obtain ⟨cq204, kq204, q204a, q204b, q204c⟩ := isOf hZ rfl p197_1
  obtain ⟨_, _, ⟨T204, L204, k204, n204⟩, -, X204, ⟨Lc204, hQ204, l204, y204, z204⟩, st204⟩ := X197.virtualBack hx (y := (⟨"com/example/wisteria/wisteria/value/TextValue", "characterCountBeforeNul", "()I"⟩ : MethodName)) (z := (⟨"com/example/wisteria/wisteria/value/TextValue", "characterCountBeforeNul", "()I"⟩ : MethodName)) hown (mvT hZ (hw _ (List.mem_of_getElem? (i := 40) rfl))) (mvT hZ (hw _ (List.mem_of_getElem? (i := 41) rfl))) (notFace_of_selects (args := #[]) (mvT hZ (hw _ (List.mem_of_getElem? (i := 43) rfl)))) (mvT hZ (hw _ (List.mem_of_getElem? (i := 43) rfl))) (mvT hZ (hw _ (List.mem_of_getElem? (i := 42) rfl))) (by decide) (backOf (W := 0) (rm9 l Z a0 hw [] b191 b2 cl42 ff A B T197.heap n0 Z200 p197_2 p197_4 f203 L hB p197_3 hA) hZ (hw _ (List.mem_of_getElem? (i := 44) rfl)) (hw _ (List.mem_of_getElem? (i := 17) rfl)) (by decide) (by decide)) q204a q204c (g := (mkF m 392 #[.val (.long q1), .second, .val (.int p2), .val (.ref b2), .val (.int (Int32.ofNat A)), .val (.int (Int32.ofNat B)), .val (.int (Int32.ofNat E8)), .val (.int (own_b2i s0_)), .val (.int (own_b2i s1_)), .val (.int (own_b2i s2_)), .val (.int (own_b2i s3_)), .val (.int (own_b2i s4_)), .val (.int (own_b2i s5_)), .val (.int (own_b2i s6_)), .val (.int (own_b2i s7_)), .val (.int ex_), .val (.ref b191)] [(.ref b191)])) rfl (by rw [hml]; rfl) (Steps.refl _) (argsL := []) (rest := []) (lenOf pd_7 rfl) rfl (by show 2 * 0 + _ ≤ _; exact Nat.le_of_eq rfl) (hb hby at_392) (fun _ _ => ⟨rfl, rfl, (by decide : 2 + 0 ≤ _), (by decide : 11 + 0 ≤ _)⟩)
  dsimp only [Pt.U, Pt.locs, Pt.cells, Pt.slots] at X204 l204 y204 z204 st204 hQ204
  subst y204 z204
  obtain ⟨rfl, Nq204, e204⟩ := hQ204
  have N205 : Fr n0 L204 := by rw [l204]; exact Fr.app N198 Nq204
  have J206 : ∀ t, Steps p.tables e below (T204.setTop (mkF m 395 #[.val (.long q1), .second, .val (.int p2), .val (.ref b2), .val (.int (Int32.ofNat A)), .val (.int (Int32.ofNat B)), .val (.int (Int32.ofNat E8)), .val (.int (own_b2i s0_)), .val (.int (own_b2i s1_)), .val (.int (own_b2i s2_)), .val (.int (own_b2i s3_)), .val (.int (own_b2i s4_)), .val (.int (own_b2i s5_)), .val (.int (own_b2i s6_)), .val (.int (own_b2i s7_)), .val (.int ex_), .val (.ref b191)] [(.int (Int32.ofNat (own_ct ff B 9 A)))])) t → Steps p.tables e below (s₁.setTop (entryFrame m #[(.long q1), (.int p2)] maxLocals)) t := fun t k => J201 t (st204.trans k)
  have hfin : Int32.ofNat (own_ct ff B 9 A) = ex_ := by rw [hex_, qE8, qs0, qs1, qs2, qs3, qs4, qs5, qs6, qs7, own_law hAB hB, own_sum8]; simp only [own_add]
  have J207 : ∀ t, Steps p.tables e below (T204.setTop (mkF m 405 #[.val (.long q1), .second, .val (.int p2), .val (.ref b2), .val (.int (Int32.ofNat A)), .val (.int (Int32.ofNat B)), .val (.int (Int32.ofNat E8)), .val (.int (own_b2i s0_)), .val (.int (own_b2i s1_)), .val (.int (own_b2i s2_)), .val (.int (own_b2i s3_)), .val (.int (own_b2i s4_)), .val (.int (own_b2i s5_)), .val (.int (own_b2i s6_)), .val (.int (own_b2i s7_)), .val (.int ex_), .val (.ref b191)] [(.int (1 : Int32))])) t → Steps p.tables e below (s₁.setTop (entryFrame m #[(.long q1), (.int p2)] maxLocals)) t := fun t k => J206 t (by
      show Steps p.tables e below (T204.setTop (mkF m 395 #[.val (.long q1), .second, .val (.int p2), .val (.ref b2), .val (.int (Int32.ofNat A)), .val (.int (Int32.ofNat B)), .val (.int (Int32.ofNat E8)), .val (.int (own_b2i s0_)), .val (.int (own_b2i s1_)), .val (.int (own_b2i s2_)), .val (.int (own_b2i s3_)), .val (.int (own_b2i s4_)), .val (.int (own_b2i s5_)), .val (.int (own_b2i s6_)), .val (.int (own_b2i s7_)), .val (.int ex_), .val (.ref b191)] [(.int (Int32.ofNat (own_ct ff B 9 A)))])) _
      refine XS.iload X204.here hx rfl (hb hby at_395) rfl ?_
      show Steps p.tables e below (T204.setTop (mkF m 397 #[.val (.long q1), .second, .val (.int p2), .val (.ref b2), .val (.int (Int32.ofNat A)), .val (.int (Int32.ofNat B)), .val (.int (Int32.ofNat E8)), .val (.int (own_b2i s0_)), .val (.int (own_b2i s1_)), .val (.int (own_b2i s2_)), .val (.int (own_b2i s3_)), .val (.int (own_b2i s4_)), .val (.int (own_b2i s5_)), .val (.int (own_b2i s6_)), .val (.int (own_b2i s7_)), .val (.int ex_), .val (.ref b191)] [(.int ex_), (.int (Int32.ofNat (own_ct ff B 9 A)))])) _
      refine XS.icmpNo X204.here hx rfl (hb hby at_397) rfl (teq hfin).2 ?_
      show Steps p.tables e below (T204.setTop (mkF m 400 #[.val (.long q1), .second, .val (.int p2), .val (.ref b2), .val (.int (Int32.ofNat A)), .val (.int (Int32.ofNat B)), .val (.int (Int32.ofNat E8)), .val (.int (own_b2i s0_)), .val (.int (own_b2i s1_)), .val (.int (own_b2i s2_)), .val (.int (own_b2i s3_)), .val (.int (own_b2i s4_)), .val (.int (own_b2i s5_)), .val (.int (own_b2i s6_)), .val (.int (own_b2i s7_)), .val (.int ex_), .val (.ref b191)] [])) _
      refine XS.iconst X204.here hx rfl (hb hby at_400) ?_
      show Steps p.tables e below (T204.setTop (mkF m 401 #[.val (.long q1), .second, .val (.int p2), .val (.ref b2), .val (.int (Int32.ofNat A)), .val (.int (Int32.ofNat B)), .val (.int (Int32.ofNat E8)), .val (.int (own_b2i s0_)), .val (.int (own_b2i s1_)), .val (.int (own_b2i s2_)), .val (.int (own_b2i s3_)), .val (.int (own_b2i s4_)), .val (.int (own_b2i s5_)), .val (.int (own_b2i s6_)), .val (.int (own_b2i s7_)), .val (.int ex_), .val (.ref b191)] [(.int (1 : Int32))])) _
      refine XS.goto X204.here hx rfl (pc0 := 401) (pc' := 405) rfl (hb hby at_401) (by decide) (by decide) ?_
      exact k)
  obtain ⟨fs, hr, hrun, hended, hW, hsame⟩ := X204.leave (v := some (.int (1 : Int32))) (fun h => by rw [Bd.returns] at h; cases h)
  refine ⟨_, _, J207 _ ?_, hrun, hended, _, _, rfl, ?_, ⟨_, rfl⟩, hW, hsame.mono (by decide) (by decide)⟩
  · show Steps p.tables e below (T204.setTop (mkF m 405 #[.val (.long q1), .second, .val (.int p2), .val (.ref b2), .val (.int (Int32.ofNat A)), .val (.int (Int32.ofNat B)), .val (.int (Int32.ofNat E8)), .val (.int (own_b2i s0_)), .val (.int (own_b2i s1_)), .val (.int (own_b2i s2_)), .val (.int (own_b2i s3_)), .val (.int (own_b2i s4_)), .val (.int (own_b2i s5_)), .val (.int (own_b2i s6_)), .val (.int (own_b2i s7_)), .val (.int ex_), .val (.ref b191)] [(.int (1 : Int32))])) _
    exact retN X204 hx (t := .boolean) Bd.returns (by simp) (hb hby at_405) hr
  · show Q0 Z q1 p2 h0 n0 _ T204.heap _
    rw [e204]
    exact ⟨rfl, N205⟩
set_option maxRecDepth 65536 in
set_option maxHeartbeats 40000000 in
theorem comes_1 {Post : Tables → Env → Array Value → State → Outcome → State → Prop} (hpost : ∀ tb e args s v u, (limb_1_1.after args s (.returned v) u = true ∧ limb_1_2.after args s (.returned v) u = true ∧ True) → FrameEnd s (.returned v) u (Jvm.fieldLocs frame_1_writes args s ++ Jvm.arrayLocs frame_1_arrays args s ++ Jvm.staticLocs frame_1_statics s) 16 128 → Post tb e args s (.returned v) u) :
    ArmFor flags0 classFile x code maxLocals ret World_1 tables_1 room_1 Calls_1 rest_1 Pre_1 Post := by
  intro l hfl _ _ p e ha hc hk s m args below hf hA hF happ hP
  obtain ⟨hcalls, hrest, hpre⟩ := hP
  obtain ⟨-, -, -, hnamed, -, -, -, hat⟩ := (Spec.applies_iff hf).mp happ
  obtain ⟨hg, hn⟩ := and_e (Cond.before_iff.mp (show (Jvm.Cond.and given_1 narrow_1).before args s = true from hpre))
  obtain ⟨hcount, hg0⟩ := and_e hg
  obtain ⟨ga0, hg1⟩ := and_e hg0
  obtain ⟨w0, w1, rfl⟩ : ∃ w0 w1 : Value, args = #[w0, w1] := by
    have hs : args.size = 2 := by simpa [Cond.value, given_1] using hcount
    obtain ⟨L⟩ := args
    match L, hs with
    | [w0, w1], _ => exact ⟨w0, w1, rfl⟩
  have hw := fun d (hd : d ∈ tables_1) => atoms_spec (ws := Jvm.Cond.code x code maxLocals ret :: tables_1) hat d (List.mem_cons_of_mem _ hd)
  have hfit : Fit s := fun {y c} hc i hi => by
    obtain ⟨ha, rfl⟩ := Array.getElem?_eq_some_iff.mp hc
    have q := List.all_eq_true.mp ((Array.all_eq_true_iff_forall_mem.mp hF) _ (Array.getElem_mem ha)) i (List.mem_range.mpr hi)
    simpa [Array.getElem?_eq_getElem hi] using q
  obtain ⟨i0, ei0⟩ := isL_v ga0
  obtain rfl : w0 = (.long i0) := Option.some.inj ei0
  obtain ⟨i1, ei1⟩ := is_v hg1
  obtain rfl : w1 = (.int i1) := Option.some.inj ei1
  obtain ⟨n, o, h1, h2, h3, _, L, rfl, ⟨rfl, N⟩, hq⟩ := rm0 l s _ hw tables_1 i0 i1 s.heap s.heap.size (Nat.le_refl _)  p e ha hc hk s m _ below hf ((Spec.applies_iff_loose hf).mp happ).1 ⟨rfl, State.Warmed39.refl s, rfl⟩ trivial
  refine ⟨n, _, h1, h2, h3, hpost _ _ _ _ _ _ ⟨Cond.after_iff.mpr rfl, Cond.after_iff.mpr (eq_i res_at (Term.int_eval (1)) rfl), trivial⟩ ⟨hq.1, hq.2.1, (hq.2.2.sift fun y hy => Or.inr (N y hy)).mono (by decide) (by decide)⟩⟩
theorem main_1_1 : Claimed_1_1 := comes_1 fun _ _ _ _ _ _ h hF => ⟨h.1, hF⟩
theorem main_1_2 : Claimed_1_2 := comes_1 fun _ _ _ _ _ _ h hF => ⟨h.2.1, hF⟩
end Jvm.Pilot.@@N@@
namespace Jvm.Pilot.@@N@@
open Jvm Jvm.ClassFile Sem Op Lib Jvm.Free Jvm.Stand Jvm.Pilot.@@N@@.Jvm.D
/-! MADE BY PROGRAM (witnessworld.py) out of the Statement's table words and the real class files: 8 classes; the members and pool entries that the words name. The judged class is class 1, her method 1. -/
namespace start1
open Jvm.ClassFile
def u (s : String) : CpInfo := .utf8 (stringToUtf16 s)
/-- a pool by its gaps: so many unusable entries, then the entry; so many at the end -/
def gap : Nat → List CpInfo → List CpInfo
  | 0, r => r
  | n + 1, r => .unusable :: gap n r
def poolList (es : List (Nat × CpInfo)) (last : Nat) : List CpInfo := es.foldr (fun e r => gap e.1 (e.2 :: r)) (gap last [])
def pool (es : List (Nat × CpInfo)) (last : Nat) : Array CpInfo := ⟨poolList es last⟩
def fileOf (pool : Array CpInfo) (this : Nat) (attrs : Array Attribute := #[]) (ms : Array MethodInfo := #[]) (fl : Nat := 33) (sup : Nat := 0) (ifs : Array Nat := #[]) (fds : Array FieldInfo := #[]) : ClassFile where
  minorVersion := 0
  majorVersion := 65
  constantPool := pool
  accessFlags := fl
  thisClass := this
  superClass := sup
  interfaces := ifs
  fields := fds
  methods := ms
  attributes := attrs
def plain (name : String) (sup : Option ClassId) : Class where
  name := name
  kind := .ordinary
  loader := none
  accessFlags := 33
  super := sup
  interfaces := #[]
  cf := none
  fields := #[]
  methods := #[]
  instanceTypes := #[]
  staticTypes := #[]
  resolved := #[]
  callSites := []
  init := .initialized
  statics := none
  mirror := none

def pool0 : Array CpInfo := pool [(5, u "<init>"), (0, u "()V"), (1, .class_ 10), (1, u "java/lang/Object")] 113

def k0c0 : Code := { maxStack := 0, maxLocals := 1, code := object_method_1_code, exceptionTable := #[], attributes := #[] }
def k0m0 : Method := { name := "<init>", desc := "()V", sig := { parameters := [], returnType := none }, accessFlags := 1, code := some k0c0 }
/-- java/lang/Object -/
def k0 : Class := { plain "java/lang/Object" none with
  accessFlags := 33
  interfaces := #[]
  cf := some (fileOf pool0 8 #[] #[{ accessFlags := 1, nameIndex := 5, descriptorIndex := 6, attributes := #[] }] 33 0 #[] #[])
  fields := #[]
  methods := #[k0m0]
  instanceTypes := #[]
  staticTypes := #[]
  resolved := Array.replicate 124 none
  statics := none }

def pool1 : Array CpInfo := pool [(2, .class_ 4), (1, u "java/lang/Object"), (0, u "<init>"), (0, u "()V"), (0, .integer 2147483647), (0, .methodref 9 10), (0, .class_ 11), (0, .nameAndType 12 13), (0, u "com/example/wisteria/wisteria/value/TextValueCharacterCountBeforeNulPinLaw"), (0, u "cut"), (0, u "([BIII)I"), (0, .methodref 9 15), (0, .nameAndType 16 17), (0, u "absorbed"), (0, u "([BIIZ)Z"), (0, .methodref 9 19), (0, .nameAndType 20 21), (0, u "one"), (0, u "(IIIZ)I"), (0, .class_ 23), (0, u "com/example/wisteria/wisteria/value/TextValue"), (0, .methodref 22 25), (0, .nameAndType 5 26), (0, u "([BII)V"), (0, .methodref 22 28), (0, .nameAndType 29 30), (0, u "characterCountBeforeNul"), (0, u "()I"), (0, .methodref 9 32), (0, .nameAndType 33 34), (0, u "cont"), (0, u "(B)Z"), (0, .methodref 9 36), (0, .nameAndType 37 34), (0, u "lead"), (2, u "law"), (0, u "(JI)Z")] 5

def k1m0 : Method := { name := "<init>", desc := "()V", sig := { parameters := [], returnType := none }, accessFlags := 1, code := none }
def k1c1 : Code := { maxStack := 5, maxLocals := 17, code := code, exceptionTable := #[], attributes := #[] }
def k1m1 : Method := { name := "law", desc := "(JI)Z", sig := { parameters := [.long, .int], returnType := some .boolean }, accessFlags := 9, code := some k1c1 }
def k1c2 : Code := { maxStack := 2, maxLocals := 1, code := method_3_code, exceptionTable := #[], attributes := #[] }
def k1m2 : Method := { name := "cont", desc := "(B)Z", sig := { parameters := [.byte], returnType := some .boolean }, accessFlags := 10, code := some k1c2 }
def k1c3 : Code := { maxStack := 2, maxLocals := 1, code := method_4_code, exceptionTable := #[], attributes := #[] }
def k1m3 : Method := { name := "lead", desc := "(B)Z", sig := { parameters := [.byte], returnType := some .boolean }, accessFlags := 10, code := some k1c3 }
def k1c4 : Code := { maxStack := 2, maxLocals := 4, code := method_5_code, exceptionTable := #[], attributes := #[] }
def k1m4 : Method := { name := "cut", desc := "([BIII)I", sig := { parameters := [(.array .byte), .int, .int, .int], returnType := some .int }, accessFlags := 10, code := some k1c4 }
def k1c5 : Code := { maxStack := 3, maxLocals := 4, code := method_6_code, exceptionTable := #[], attributes := #[] }
def k1m5 : Method := { name := "absorbed", desc := "([BIIZ)Z", sig := { parameters := [(.array .byte), .int, .int, .boolean], returnType := some .boolean }, accessFlags := 10, code := some k1c5 }
def k1c6 : Code := { maxStack := 2, maxLocals := 4, code := method_7_code, exceptionTable := #[], attributes := #[] }
def k1m6 : Method := { name := "one", desc := "(IIIZ)I", sig := { parameters := [.int, .int, .int, .boolean], returnType := some .int }, accessFlags := 10, code := some k1c6 }
/-- com/example/wisteria/wisteria/value/TextValueCharacterCountBeforeNulPinLaw -/
def k1 : Class := { plain "com/example/wisteria/wisteria/value/TextValueCharacterCountBeforeNulPinLaw" (some 0) with
  accessFlags := 49
  interfaces := #[]
  cf := some (fileOf pool1 9 #[] #[{ accessFlags := 1, nameIndex := 5, descriptorIndex := 6, attributes := #[] }, { accessFlags := 9, nameIndex := 40, descriptorIndex := 41, attributes := #[] }, { accessFlags := 10, nameIndex := 33, descriptorIndex := 34, attributes := #[] }, { accessFlags := 10, nameIndex := 37, descriptorIndex := 34, attributes := #[] }, { accessFlags := 10, nameIndex := 12, descriptorIndex := 13, attributes := #[] }, { accessFlags := 10, nameIndex := 16, descriptorIndex := 17, attributes := #[] }, { accessFlags := 10, nameIndex := 20, descriptorIndex := 21, attributes := #[] }] 49 2 #[] #[])
  fields := #[]
  methods := #[k1m0, k1m1, k1m2, k1m3, k1m4, k1m5, k1m6]
  instanceTypes := #[]
  staticTypes := #[]
  resolved := Array.replicate 47 none
  statics := none }

def pool2 : Array CpInfo := pool [(1, .class_ 2), (0, u "com/example/wisteria/wisteria/value/Value"), (0, .methodref 4 5), (0, .class_ 6), (0, .nameAndType 7 8), (0, u "java/lang/Object"), (0, u "<init>"), (0, u "()V"), (0, .long 1000000000), (53, u "(J)V"), (2, u "TRUE"), (0, u "Lcom/example/wisteria/wisteria/value/Value;"), (2, u "FALSE"), (40, u "checkLength"), (101, u "MAX_LENGTH"), (0, u "I"), (2, u "MAX_SHORT_TEXT")] 45

def k2c0 : Code := { maxStack := 1, maxLocals := 1, code := prog_232_method_1_code, exceptionTable := #[], attributes := #[] }
def k2m0 : Method := { name := "<init>", desc := "()V", sig := { parameters := [], returnType := none }, accessFlags := 0, code := some k2c0 }
def k2c1 : Code := { maxStack := 4, maxLocals := 2, code := prog_232_method_2_code, exceptionTable := #[], attributes := #[] }
def k2m1 : Method := { name := "checkLength", desc := "(J)V", sig := { parameters := [.long], returnType := none }, accessFlags := 9, code := some k2c1 }
/-- com/example/wisteria/wisteria/value/Value -/
def k2 : Class := { plain "com/example/wisteria/wisteria/value/Value" (some 0) with
  accessFlags := 1057
  interfaces := #[]
  cf := some (fileOf pool2 1 #[] #[{ accessFlags := 0, nameIndex := 7, descriptorIndex := 8, attributes := #[] }, { accessFlags := 9, nameIndex := 111, descriptorIndex := 63, attributes := #[] }] 1057 4 #[] #[{ accessFlags := 25, nameIndex := 213, descriptorIndex := 214, attributes := #[] }, { accessFlags := 26, nameIndex := 217, descriptorIndex := 214, attributes := #[] }, { accessFlags := 26, nameIndex := 66, descriptorIndex := 67, attributes := #[] }, { accessFlags := 26, nameIndex := 70, descriptorIndex := 67, attributes := #[] }])
  fields := #[{ name := "MAX_LENGTH", type := .int, accessFlags := 25, slot := 0, constantValue := 0 }, { name := "MAX_SHORT_TEXT", type := .int, accessFlags := 26, slot := 1, constantValue := 0 }, { name := "TRUE", type := (.object "com/example/wisteria/wisteria/value/Value"), accessFlags := 26, slot := 2, constantValue := 0 }, { name := "FALSE", type := (.object "com/example/wisteria/wisteria/value/Value"), accessFlags := 26, slot := 3, constantValue := 0 }]
  methods := #[k2m0, k2m1]
  instanceTypes := #[]
  staticTypes := #[.int, .int, (.object "com/example/wisteria/wisteria/value/Value"), (.object "com/example/wisteria/wisteria/value/Value")]
  resolved := Array.replicate 263 none
  statics := none }

def pool3 : Array CpInfo := pool [(2, .class_ 4), (1, u "com/example/wisteria/wisteria/value/TextValue"), (0, u "<init>"), (0, u "([BII)V"), (0, .methodref 8 9), (0, .class_ 10), (0, .nameAndType 5 11), (0, u "com/example/wisteria/wisteria/value/Value"), (0, u "()V"), (0, .methodref 2 13), (0, .nameAndType 14 15), (0, u "checkLength"), (0, u "(J)V"), (0, .fieldref 2 17), (0, .nameAndType 18 19), (0, u "bytes"), (0, u "[B"), (0, .fieldref 2 21), (0, .nameAndType 22 23), (0, u "from"), (0, u "I"), (0, .fieldref 2 25), (0, .nameAndType 26 23), (0, u "to"), (45, u "()I"), (4, u "characterCountBeforeNul")] 3

def k3c0 : Code := { maxStack := 2, maxLocals := 4, code := prog_230_method_2_code, exceptionTable := #[], attributes := #[] }
def k3m0 : Method := { name := "<init>", desc := "([BII)V", sig := { parameters := [(.array .byte), .int, .int], returnType := none }, accessFlags := 0, code := some k3c0 }
def k3c1 : Code := { maxStack := 2, maxLocals := 4, code := prog_230_method_12_code, exceptionTable := #[], attributes := #[] }
def k3m1 : Method := { name := "characterCountBeforeNul", desc := "()I", sig := { parameters := [], returnType := some .int }, accessFlags := 1, code := some k3c1 }
/-- com/example/wisteria/wisteria/value/TextValue -/
def k3 : Class := { plain "com/example/wisteria/wisteria/value/TextValue" (some 2) with
  accessFlags := 49
  interfaces := #[]
  cf := some (fileOf pool3 2 #[] #[{ accessFlags := 0, nameIndex := 5, descriptorIndex := 6, attributes := #[] }, { accessFlags := 1, nameIndex := 77, descriptorIndex := 72, attributes := #[] }] 49 8 #[] #[{ accessFlags := 18, nameIndex := 18, descriptorIndex := 19, attributes := #[] }, { accessFlags := 18, nameIndex := 22, descriptorIndex := 23, attributes := #[] }, { accessFlags := 18, nameIndex := 26, descriptorIndex := 23, attributes := #[] }])
  fields := #[{ name := "bytes", type := (.array .byte), accessFlags := 18, slot := 0, constantValue := 0 }, { name := "from", type := .int, accessFlags := 18, slot := 1, constantValue := 0 }, { name := "to", type := .int, accessFlags := 18, slot := 2, constantValue := 0 }]
  methods := #[k3m0, k3m1]
  instanceTypes := #[(.array .byte), .int, .int]
  staticTypes := #[]
  resolved := Array.replicate 81 none
  statics := none }

def pool4 : Array CpInfo := pool [(1, u "java/lang/Cloneable"), (0, .class_ 1), (0, u "java/lang/Object"), (0, .class_ 3)] 3

/-- java/lang/Cloneable -/
def k4 : Class := { plain "java/lang/Cloneable" (some 0) with
  accessFlags := 1537
  interfaces := #[]
  cf := some (fileOf pool4 2 #[] #[] 1537 4 #[] #[])
  fields := #[]
  methods := #[]
  instanceTypes := #[]
  staticTypes := #[]
  resolved := Array.replicate 8 none
  statics := none }

def pool5 : Array CpInfo := pool [(1, u "java/io/Serializable"), (0, .class_ 1), (0, u "java/lang/Object"), (0, .class_ 3)] 3

/-- java/io/Serializable -/
def k5 : Class := { plain "java/io/Serializable" (some 0) with
  accessFlags := 1537
  interfaces := #[]
  cf := some (fileOf pool5 2 #[] #[] 1537 4 #[] #[])
  fields := #[]
  methods := #[]
  instanceTypes := #[]
  staticTypes := #[]
  resolved := Array.replicate 8 none
  statics := none }

/-- the primitive byte -/
def k6 : Class := { plain "byte" none with kind := .primitive 'B', accessFlags := 0x411 }
/-- [B -/
def k7 : Class := { plain "[B" (some 0) with kind := .array 6 .byte, interfaces := #[4, 5], accessFlags := 1041 }

def heap : Heap := #[]
def classes : Array Class := #[k0, k1, k2, k3, k4, k5, k6, k7]
def interned : List (Array UInt16 × Addr) := []
def slotsUsed : Nat := 0
def theMethod : MethodId := ⟨1, 1⟩
def args0 : Array Value := #[.long 5, .int 6]
def aboutOver (below : List Frame) : State where
  vm := { classes := classes, interned := interned.toArray }
  heap := heap
  slotsUsed := slotsUsed
  threads := #[{ frames := .invoking theMethod args0 :: below }]
def below0 : List Frame := [.native { method := ⟨0, 0⟩, args := #[] }]
def about1 : State := aboutOver below0
def p0 : Program := .bare "" "" ""
def e0 : Env := launch0.env 0 0 0
theorem w_frames : about1.frames = Frame.invoking theMethod args0 :: below0 := rfl
set_option maxRecDepth 65536 in
theorem w_args : argsFit about1.vm theMethod args0 = true := by decide +kernel
set_option maxRecDepth 65536 in
theorem w_heap : heapFits about1 = true := by decide +kernel
set_option maxRecDepth 65536 in
theorem w_runnable : about1.curStatus? = some .runnable := by decide +kernel
set_option maxRecDepth 65536 in
theorem w_alone : about1.alone = true := by decide +kernel
set_option maxRecDepth 65536 in
theorem w_named : about1.methodNamed? x = some theMethod := by decide +kernel
set_option maxRecDepth 65536 in
theorem w_hears : about1.hears theMethod below0 = true := by decide +kernel
set_option maxRecDepth 65536 in
theorem w_ripe : about1.ripe theMethod args0 below0 = true := by decide +kernel
theorem w_running : about1.status = .running := rfl
set_option maxRecDepth 65536 in
theorem w_room : about1.hasRoom e0.platform room_1 = true :=
  launch0.hasRoom_least _ room_1 (by decide +kernel) (by decide +kernel) (by decide +kernel) (by decide +kernel) (by decide +kernel) (by decide +kernel)
theorem allAtoms_all (ts : List Jvm.Cond) (a : Array Jvm.Value) (st : Jvm.State) : (allAtoms ts).before a st = ts.all (fun c => c.before a st) := by
  induction ts with
  | nil => rfl
  | cons c t ih =>
    show (Jvm.Cond.and c (allAtoms t)).before a st = _
    rw [Jvm.Cond.before_and, ih, List.all_cons]
def words1 : List Jvm.Cond := Jvm.Cond.code x code maxLocals ret :: tables_1
/-- a 'code' word, met by the world's own term for the bytes: nothing is compared byte by byte -/
theorem code_word {y : MethodName} {bytes : ByteArray} {mx : Nat} {rt : Option FieldType} {a : Array Value} {s : State} {m : MethodId} {meth : Method} {c : Code} (h1 : s.methodNamed? y = some m) (h2 : s.vm.method? m = some meth) (h3 : meth.code = some c) (h4 : c.code = bytes)
    (h5 : (c.maxLocals == mx && c.exceptionTable.isEmpty && decide (c.maxStack ≤ mostOperands) && decide (meth.sig.returnType = rt) && !meth.locks && decide (parseMethodDescriptor y.desc = some meth.sig)) = true) : (Jvm.Cond.code y bytes mx rt).before a s = true := by
  simp only [Bool.and_eq_true, beq_iff_eq, Bool.not_eq_true', decide_eq_true_eq] at h5
  obtain ⟨⟨⟨⟨⟨g1, g2⟩, g3⟩, g4⟩, g5⟩, g6⟩ := h5
  simp [Cond.before, Cond.holds, Cond.value, h1, h2, h3, h4, g1, g2, g3, g4, g5, g6]
def isCode : Jvm.Cond → Bool
  | .code _ _ _ _ => true
  | _ => false
theorem all_split {L : List Jvm.Cond} {P : Jvm.Cond → Bool} (h1 : L.all (fun c => isCode c || P c) = true) (h2 : ∀ c ∈ L.filter isCode, P c = true) : L.all P = true := by
  refine List.all_eq_true.mpr fun c hc => ?_
  have h := List.all_eq_true.mp h1 c hc
  rcases Bool.eq_false_or_eq_true (isCode c) with hi | hi
  · exact h2 c (List.mem_filter.mpr ⟨hc, hi⟩)
  · simpa [hi] using h
set_option maxRecDepth 65536 in
theorem w_c0 : (Jvm.Cond.code x code maxLocals ret).before args0 about1 = true := code_word (m := ⟨1, 1⟩) (meth := k1m1) (c := k1c1) (by decide +kernel) rfl rfl rfl (by decide +kernel)
set_option maxRecDepth 65536 in
theorem w_c1 : (Jvm.Cond.code ({ cls := "com/example/wisteria/wisteria/value/TextValueCharacterCountBeforeNulPinLaw", name := "cut", desc := "([BIII)I" } : Jvm.MethodName) method_5_code (4 : Nat) (Option.some Jvm.ClassFile.FieldType.int)).before args0 about1 = true := code_word (m := ⟨1, 4⟩) (meth := k1m4) (c := k1c4) (by decide +kernel) rfl rfl rfl (by decide +kernel)
set_option maxRecDepth 65536 in
theorem w_c2 : (Jvm.Cond.code ({ cls := "com/example/wisteria/wisteria/value/TextValueCharacterCountBeforeNulPinLaw", name := "absorbed", desc := "([BIIZ)Z" } : Jvm.MethodName) method_6_code (4 : Nat) (Option.some Jvm.ClassFile.FieldType.boolean)).before args0 about1 = true := code_word (m := ⟨1, 5⟩) (meth := k1m5) (c := k1c5) (by decide +kernel) rfl rfl rfl (by decide +kernel)
set_option maxRecDepth 65536 in
theorem w_c3 : (Jvm.Cond.code ({ cls := "com/example/wisteria/wisteria/value/TextValueCharacterCountBeforeNulPinLaw", name := "cont", desc := "(B)Z" } : Jvm.MethodName) method_3_code (1 : Nat) (Option.some Jvm.ClassFile.FieldType.boolean)).before args0 about1 = true := code_word (m := ⟨1, 2⟩) (meth := k1m2) (c := k1c2) (by decide +kernel) rfl rfl rfl (by decide +kernel)
set_option maxRecDepth 65536 in
theorem w_c4 : (Jvm.Cond.code ({ cls := "com/example/wisteria/wisteria/value/TextValueCharacterCountBeforeNulPinLaw", name := "one", desc := "(IIIZ)I" } : Jvm.MethodName) method_7_code (4 : Nat) (Option.some Jvm.ClassFile.FieldType.int)).before args0 about1 = true := code_word (m := ⟨1, 6⟩) (meth := k1m6) (c := k1c6) (by decide +kernel) rfl rfl rfl (by decide +kernel)
set_option maxRecDepth 65536 in
theorem w_c5 : (Jvm.Cond.code ({ cls := "com/example/wisteria/wisteria/value/TextValue", name := "<init>", desc := "([BII)V" } : Jvm.MethodName) prog_230_method_2_code (4 : Nat) (Option.none : Option Jvm.ClassFile.FieldType)).before args0 about1 = true := code_word (m := ⟨3, 0⟩) (meth := k3m0) (c := k3c0) (by decide +kernel) rfl rfl rfl (by decide +kernel)
set_option maxRecDepth 65536 in
theorem w_c6 : (Jvm.Cond.code ({ cls := "com/example/wisteria/wisteria/value/Value", name := "<init>", desc := "()V" } : Jvm.MethodName) prog_232_method_1_code (1 : Nat) (Option.none : Option Jvm.ClassFile.FieldType)).before args0 about1 = true := code_word (m := ⟨2, 0⟩) (meth := k2m0) (c := k2c0) (by decide +kernel) rfl rfl rfl (by decide +kernel)
set_option maxRecDepth 65536 in
theorem w_c7 : (Jvm.Cond.code ({ cls := "java/lang/Object", name := "<init>", desc := "()V" } : Jvm.MethodName) object_method_1_code (1 : Nat) (Option.none : Option Jvm.ClassFile.FieldType)).before args0 about1 = true := code_word (m := ⟨0, 0⟩) (meth := k0m0) (c := k0c0) (by decide +kernel) rfl rfl rfl (by decide +kernel)
set_option maxRecDepth 65536 in
theorem w_c8 : (Jvm.Cond.code ({ cls := "com/example/wisteria/wisteria/value/Value", name := "checkLength", desc := "(J)V" } : Jvm.MethodName) prog_232_method_2_code (2 : Nat) (Option.none : Option Jvm.ClassFile.FieldType)).before args0 about1 = true := code_word (m := ⟨2, 1⟩) (meth := k2m1) (c := k2c1) (by decide +kernel) rfl rfl rfl (by decide +kernel)
set_option maxRecDepth 65536 in
theorem w_c9 : (Jvm.Cond.code ({ cls := "com/example/wisteria/wisteria/value/TextValue", name := "characterCountBeforeNul", desc := "()I" } : Jvm.MethodName) prog_230_method_12_code (4 : Nat) (Option.some Jvm.ClassFile.FieldType.int)).before args0 about1 = true := code_word (m := ⟨3, 1⟩) (meth := k3m1) (c := k3c1) (by decide +kernel) rfl rfl rfl (by decide +kernel)
set_option maxRecDepth 65536 in
theorem w_c10 : (Jvm.Cond.code ({ cls := "com/example/wisteria/wisteria/value/TextValueCharacterCountBeforeNulPinLaw", name := "lead", desc := "(B)Z" } : Jvm.MethodName) method_4_code (1 : Nat) (Option.some Jvm.ClassFile.FieldType.boolean)).before args0 about1 = true := code_word (m := ⟨1, 3⟩) (meth := k1m3) (c := k1c3) (by decide +kernel) rfl rfl rfl (by decide +kernel)
def codes1 : List Jvm.Cond := [Jvm.Cond.code x code maxLocals ret, Jvm.Cond.code ({ cls := "com/example/wisteria/wisteria/value/TextValueCharacterCountBeforeNulPinLaw", name := "cut", desc := "([BIII)I" } : Jvm.MethodName) method_5_code (4 : Nat) (Option.some Jvm.ClassFile.FieldType.int), Jvm.Cond.code ({ cls := "com/example/wisteria/wisteria/value/TextValueCharacterCountBeforeNulPinLaw", name := "absorbed", desc := "([BIIZ)Z" } : Jvm.MethodName) method_6_code (4 : Nat) (Option.some Jvm.ClassFile.FieldType.boolean), Jvm.Cond.code ({ cls := "com/example/wisteria/wisteria/value/TextValueCharacterCountBeforeNulPinLaw", name := "cont", desc := "(B)Z" } : Jvm.MethodName) method_3_code (1 : Nat) (Option.some Jvm.ClassFile.FieldType.boolean), Jvm.Cond.code ({ cls := "com/example/wisteria/wisteria/value/TextValueCharacterCountBeforeNulPinLaw", name := "one", desc := "(IIIZ)I" } : Jvm.MethodName) method_7_code (4 : Nat) (Option.some Jvm.ClassFile.FieldType.int), Jvm.Cond.code ({ cls := "com/example/wisteria/wisteria/value/TextValue", name := "<init>", desc := "([BII)V" } : Jvm.MethodName) prog_230_method_2_code (4 : Nat) (Option.none : Option Jvm.ClassFile.FieldType), Jvm.Cond.code ({ cls := "com/example/wisteria/wisteria/value/Value", name := "<init>", desc := "()V" } : Jvm.MethodName) prog_232_method_1_code (1 : Nat) (Option.none : Option Jvm.ClassFile.FieldType), Jvm.Cond.code ({ cls := "java/lang/Object", name := "<init>", desc := "()V" } : Jvm.MethodName) object_method_1_code (1 : Nat) (Option.none : Option Jvm.ClassFile.FieldType), Jvm.Cond.code ({ cls := "com/example/wisteria/wisteria/value/Value", name := "checkLength", desc := "(J)V" } : Jvm.MethodName) prog_232_method_2_code (2 : Nat) (Option.none : Option Jvm.ClassFile.FieldType), Jvm.Cond.code ({ cls := "com/example/wisteria/wisteria/value/TextValue", name := "characterCountBeforeNul", desc := "()I" } : Jvm.MethodName) prog_230_method_12_code (4 : Nat) (Option.some Jvm.ClassFile.FieldType.int), Jvm.Cond.code ({ cls := "com/example/wisteria/wisteria/value/TextValueCharacterCountBeforeNulPinLaw", name := "lead", desc := "(B)Z" } : Jvm.MethodName) method_4_code (1 : Nat) (Option.some Jvm.ClassFile.FieldType.boolean)]
set_option maxRecDepth 65536 in
theorem codes_eq : words1.filter isCode = codes1 := rfl
theorem w_codes : ∀ c ∈ words1.filter isCode, c.before args0 about1 = true := by
  rw [codes_eq]
  intro c hc
  simp only [codes1, List.mem_cons, List.not_mem_nil, or_false] at hc
  rcases hc with rfl | rfl | rfl | rfl | rfl | rfl | rfl | rfl | rfl | rfl | rfl
  · exact w_c0
  · exact w_c1
  · exact w_c2
  · exact w_c3
  · exact w_c4
  · exact w_c5
  · exact w_c6
  · exact w_c7
  · exact w_c8
  · exact w_c9
  · exact w_c10
set_option maxRecDepth 65536 in
theorem w_t1 : (words1.take 24).all (fun c => isCode c || c.before args0 about1) = true := by decide +kernel
set_option maxRecDepth 65536 in
theorem w_t2 : ((words1.drop 24).take 24).all (fun c => isCode c || c.before args0 about1) = true := by decide +kernel
set_option maxRecDepth 65536 in
theorem w_t3 : ((words1.drop 24).drop 24).all (fun c => isCode c || c.before args0 about1) = true := by decide +kernel
theorem w_tables : (allAtoms (Jvm.Cond.code x code maxLocals ret :: tables_1)).before args0 about1 = true := by
  rw [allAtoms_all]
  show words1.all (fun c => c.before args0 about1) = true
  refine all_split ?_ w_codes
  rw [← List.take_append_drop 24 words1, List.all_append, w_t1, ← List.take_append_drop 24 (words1.drop 24), List.all_append, w_t2, w_t3]
  rfl
set_option maxRecDepth 65536 in
theorem w_case : (Jvm.Cond.and given_1 narrow_1).before args0 about1 = true := by decide +kernel
theorem w_applies : (headSpec (Jvm.Cond.code x code maxLocals ret :: tables_1) room_1).applies x e0.platform about1 = true :=
  (Spec.applies_iff w_frames).mpr ⟨w_running, w_runnable, w_alone, w_named, w_hears, w_ripe, w_room, w_tables⟩
theorem atStart : AtStart classFile x code maxLocals ret World_1 tables_1 room_1 Calls_1 rest_1 Pre_1 launch0 p0 e0 about1 theMethod args0 below0 :=
  ⟨lists_1, trivial, launch0.admits_env _ _ _, launch0.least_env, fairChoices_fair.cas, fairChoices_fair.clock, w_frames, w_args, w_heap, w_applies, trivial, trivial, w_case⟩
end start1
theorem witness_1 : WitnessClaimed_1 := ⟨start1.p0, start1.e0, start1.about1, start1.theMethod, start1.args0, start1.below0, start1.atStart⟩
end Jvm.Pilot.@@N@@
