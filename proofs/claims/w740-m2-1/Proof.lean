import JvmDerived
import JvmDerived.Pilot.@@N@@Statement
import JvmDerived.Pilot.@@N@@Code
set_option linter.unusedVariables false
set_option linter.unusedSimpArgs false
@@BLOCK:NumsL.lean.txt@@
namespace Jvm.RoadKit
open Sem ClassFile Op Lib Jvm.Stand Jvm.Free Jvm.LawKit
section New
variable {p : Program} {l : Launch} {e : Env} {R : Room} {s : State} {m : MethodId} {args : Array Value} {below : List Frame} {meth : Method} {c : Code} {T : State} {locs : List Loc} {cells slots : Nat}
theorem retI (X : Stand p l e R s m args below meth c T locs cells slots) (hx : p.tables.exec = Jvm.exec) {pc : Nat} {Ls : Array Slot} {z : Int32} {rest : List Value} (hret : meth.sig.returnType = some .int) (hd : decode c.code pc = .ok (.ireturn, 1)) {fs : List Frame}
    (hl : ∀ (f : JFrame) (acts : List Action), f.method = m → f.locked = none → f.entered = [] → (doReturn e (T.setTop f) acts (some (.int z))).1 = T.setFrames fs) : Steps p.tables e below (T.setTop (mkF m pc Ls (.int z :: rest))) (T.setFrames fs) := by
  have hm' : T.vm.method? m = some meth := X.method'
  have hn : narrow .int (.int z) = .int z := rfl
  show Steps p.tables e below (T.setTop { method := m, pc := pc, locals := Ls, stack := _ :: rest, locked := none }) _
  jvm_step X.here [X.here.top, hx, hd, hm', hret, hn]
  first | (intro acts; rw [hl _ acts rfl rfl rfl]) | rw [hl _ _ rfl rfl rfl]
  exact Steps.refl _
end New
end Jvm.RoadKit
namespace Jvm.Pilot.@@N@@
open Jvm Jvm.ClassFile Sem Op Lib Jvm.Free Jvm.Stand Jvm.LawKit Jvm.RoadKit Bundle Jvm.Pilot.@@N@@.Jvm.D
theorem own_mod (x m : Int32) (hm : 0 < m.toInt) : 0 ≤ ((x &&& (2147483647 : Int32)) % m).toInt ∧ ((x &&& (2147483647 : Int32)) % m).toInt < m.toInt := by
  have h := Jvm.Kit.i32_mask x 2147483647 (k := 31) (by decide) (by decide)
  have h0 : 0 ≤ (x &&& (2147483647 : Int32)).toInt := by rw [h]; exact Int.emod_nonneg _ (by decide)
  rw [Jvm.Kit.i32_rem_nonneg h0]
  exact ⟨Int.emod_nonneg _ (by omega), Int.emod_lt_of_pos _ hm⟩
theorem own_first (p1 fi : Int32) (h : fi = ((p1 &&& (2147483647 : Int32)) % (24 : Int32))) : 0 ≤ fi.toInt ∧ fi.toInt < 24 := by
  have := own_mod p1 24 (by decide)
  rw [h]; exact this
theorem own_e24 : (24 : Int32).toInt = 24 := by decide
theorem own_e23 : (23 : Int32).toInt = 23 := by decide
theorem own_e1 : (1 : Int32).toInt = 1 := by decide
theorem own_e0 : (0 : Int32).toInt = 0 := by decide
theorem own_sub24 (fi : Int32) (bf : 0 ≤ fi.toInt ∧ fi.toInt < 24) : ((24 : Int32) - fi).toInt = 24 - fi.toInt := by
  rw [Jvm.Kit.i32_sub (by rw [own_e24]; omega) (by rw [own_e24]; omega), own_e24]
theorem own_nz24 (fi : Int32) (bf : 0 ≤ fi.toInt ∧ fi.toInt < 24) : ((24 : Int32) - fi) ≠ 0 := fun q => by
  have := congrArg Int32.toInt q
  rw [own_sub24 fi bf, own_e0] at this; omega
theorem own_last (fi p2 la : Int32) (bf : 0 ≤ fi.toInt ∧ fi.toInt < 24) (h : la = (fi + ((p2 &&& (2147483647 : Int32)) % ((24 : Int32) - fi)))) : fi.toInt ≤ la.toInt ∧ la.toInt < 24 := by
  have e := own_sub24 fi bf
  have m := own_mod p2 ((24 : Int32) - fi) (by omega)
  rw [e] at m
  rw [h, Jvm.Kit.i32_add (by omega) (by omega)]
  omega
theorem own_subd (fi la : Int32) (bf : 0 ≤ fi.toInt ∧ fi.toInt < 24) (bl : fi.toInt ≤ la.toInt ∧ la.toInt < 24) : ((la - fi) + (1 : Int32)).toInt = la.toInt - fi.toInt + 1 := by
  have e : (la - fi).toInt = la.toInt - fi.toInt := Jvm.Kit.i32_sub (by omega) (by omega)
  rw [Jvm.Kit.i32_add (by rw [own_e1]; omega) (by rw [own_e1]; omega), own_e1, e]
theorem own_nzd (fi la : Int32) (bf : 0 ≤ fi.toInt ∧ fi.toInt < 24) (bl : fi.toInt ≤ la.toInt ∧ la.toInt < 24) : ((la - fi) + (1 : Int32)) ≠ 0 := fun q => by
  have := congrArg Int32.toInt q
  rw [own_subd fi la bf bl, own_e0] at this; omega
theorem own_k (fi la p3 kk : Int32) (bf : 0 ≤ fi.toInt ∧ fi.toInt < 24) (bl : fi.toInt ≤ la.toInt ∧ la.toInt < 24) (h : kk = (fi + ((p3 &&& (2147483647 : Int32)) % ((la - fi) + (1 : Int32))))) : fi.toInt ≤ kk.toInt ∧ kk.toInt ≤ la.toInt := by
  have e := own_subd fi la bf bl
  have m := own_mod p3 ((la - fi) + (1 : Int32)) (by omega)
  rw [e] at m
  rw [h, Jvm.Kit.i32_add (by omega) (by omega)]
  omega
theorem own_ge0 {x : Int32} (h : 0 ≤ x.toInt) : ¬ (x < (0 : Int32)) := by rw [Int32.lt_iff_toInt_lt, own_e0]; omega
theorem own_nlt {x y : Int32} (h : x.toInt ≤ y.toInt) : ¬ (y < x) := by rw [Int32.lt_iff_toInt_lt]; omega
theorem own_le23 {x : Int32} (h : x.toInt < 24) : ¬ ((23 : Int32) < x) := by rw [Int32.lt_iff_toInt_lt, own_e23]; omega
theorem own_lt_of_le {a b c : Int} (h : a ≤ b) (h2 : b < c) : a < c := by omega
theorem own_rf (fi la kk sp rf : Int32) (bf : 0 ≤ fi.toInt ∧ fi.toInt < 24) (bl : fi.toInt ≤ la.toInt ∧ la.toInt < 24) (bk : fi.toInt ≤ kk.toInt ∧ kk.toInt ≤ la.toInt) (hsp : sp = (if kk < la then (1 : Int32) else (0 : Int32))) (hrf : rf = (if sp = (0 : Int32) then la else (kk + (1 : Int32)))) : ¬ (rf < (0 : Int32)) ∧ ¬ (la < rf) ∧ True := by
  by_cases h : kk < la
  · have e1 : sp = 1 := by rw [hsp, if_pos h]
    have e2 : rf = kk + (1 : Int32) := by rw [hrf, e1]; rfl
    rw [Int32.lt_iff_toInt_lt] at h
    have e3 : rf.toInt = kk.toInt + 1 := by rw [e2, Jvm.Kit.i32_add (by rw [own_e1]; omega) (by rw [own_e1]; omega), own_e1]
    exact ⟨own_ge0 (by omega), own_nlt (by omega), trivial⟩
  · have e1 : sp = 0 := by rw [hsp, if_neg h]
    have e2 : rf = la := by rw [hrf, e1]; rfl
    rw [e2]
    exact ⟨own_ge0 (by omega), own_nlt (by omega), trivial⟩
theorem own_one (fi : Int32) : ((fi - fi) + (1 : Int32)) = (1 : Int32) := by rw [Int32.sub_self]; rfl
theorem own_w1 {fi la : Int32} (bf : 0 ≤ fi.toInt ∧ fi.toInt < 24) (bl : fi.toInt ≤ la.toInt ∧ la.toInt < 24) : ¬ (((la - fi) + (1 : Int32)) < (1 : Int32)) := own_nlt (by rw [own_subd fi la bf bl, own_e1]; omega)
theorem own_w24 {fi la : Int32} (bf : 0 ≤ fi.toInt ∧ fi.toInt < 24) (bl : fi.toInt ≤ la.toInt ∧ la.toInt < 24) : ¬ ((24 : Int32) < ((la - fi) + (1 : Int32))) := own_nlt (by rw [own_subd fi la bf bl, own_e24]; omega)
theorem own_lw (fi la kk sp : Int32) (bk : fi.toInt ≤ kk.toInt ∧ kk.toInt ≤ la.toInt) (hsp : sp = (if kk < la then (1 : Int32) else (0 : Int32))) (hz : sp = (0 : Int32)) : ((kk - fi) + (1 : Int32)) = ((la - fi) + (1 : Int32)) := by
  have h : ¬ kk < la := fun h => by rw [hsp, if_pos h] at hz; exact absurd hz (by decide)
  rw [Int32.lt_iff_toInt_lt] at h
  have : kk = la := Int32.toInt_inj.mp (by omega)
  rw [this]
theorem own_r1 (la kk sp rf : Int32) (hrf : rf = (if sp = (0 : Int32) then la else (kk + (1 : Int32)))) (hz : sp = (0 : Int32)) : ((la - rf) + (1 : Int32)) = (1 : Int32) := by
  rw [hrf, if_pos hz]; exact own_one la
theorem own_sum (fi la kk sp rf : Int32) (hrf : rf = (if sp = (0 : Int32) then la else (kk + (1 : Int32)))) (hz : ¬ sp = (0 : Int32)) : (((kk - fi) + (1 : Int32)) + ((la - rf) + (1 : Int32))) = ((la - fi) + (1 : Int32)) := by
  rw [hrf, if_neg hz]
  apply Int32.toInt_inj.mp
  have h1 := c_iadd ((kk - fi) + (1 : Int32)) ((la - (kk + (1 : Int32))) + (1 : Int32))
  have h2 := c_iadd (kk - fi) 1
  have h3 := c_isub kk fi
  have h4 := c_iadd (la - (kk + (1 : Int32))) 1
  have h5 := c_isub la (kk + (1 : Int32))
  have h6 := c_iadd kk 1
  have h7 := c_iadd (la - fi) 1
  have h8 := c_isub la fi
  have r1 := rng32 (((kk - fi) + (1 : Int32)) + ((la - (kk + (1 : Int32))) + (1 : Int32)))
  have r2 := rng32 ((la - fi) + (1 : Int32))
  rw [own_e1] at h2 h4 h6 h7
  omega

theorem d2_0 : decode jdk_30_method_1_code 0 = .ok (.aload_n 0, 1) := by decide +kernel
theorem d2_1 : decode jdk_30_method_1_code 1 = .ok (.invokespecial 1, 3) := by decide +kernel
theorem d2_4 : decode jdk_30_method_1_code 4 = .ok (.return_, 1) := by decide +kernel
theorem pn_2 : plainName "java/lang/Record" = true := by first | (simp [plainName, overriddenIn]; done) | decide +kernel
theorem ef_2_x (m : MethodId) (x0 : Addr) : entryFrame m #[(.ref x0)] 1 = mkF m 0 #[.val (.ref x0)] [] := by first | (simp [entryFrame, mkF, argsToLocals, Value.category]; done) | rfl
def Q2 (Z : State) (a1 : Addr) (h0 : Heap) (n0 : Nat) (v : Option Value) (h : Heap) (L : List Loc) : Prop := v = none ∧ Fr n0 L ∧ h = h0
set_option maxRecDepth 65536 in
set_option maxHeartbeats 40000000 in
theorem rm2 (l : Launch) (Z : State) (a0 : Array Value) (hw : ∀ d ∈ tables_1, d.before a0 Z = true) (ws : List Jvm.Cond) (a1 : Addr) (h0 : Heap) (n0 : Nat) (Z0 : n0 ≤ h0.size) :
    MetFree l (⟨"java/lang/Record", "<init>", "()V"⟩ : MethodName) (head1 (Jvm.Cond.code (⟨"java/lang/Record", "<init>", "()V"⟩ : MethodName) jdk_30_method_1_code 1 none :: ws) ({ frames := 1, cells := 0, slots := 0, locals := 12 } : Room)) (fun a U => a = #[(.ref a1)] ∧ Z.Warmed39 U.vm ∧ U.heap = h0) (fun _ _ _ _ _ => True) (fun _ U o U' => ∃ v L, o = .returned v ∧ Q2 Z a1 h0 n0 v U'.heap L ∧ FrameEnd U o U' L ({ frames := 1, cells := 0, slots := 0, locals := 12 } : Room).cells ({ frames := 1, cells := 0, slots := 0, locals := 12 } : Room).slots) := by
  refine MetFree.of_bodySF (plainFor_of_name pn_2) hisR ?_
  intro p e s m args below meth c s₁ Bd hml0 hP hK
  obtain ⟨rfl, hZ, hh⟩ := hP
  have hx := Bd.exec
  have hby := Bd.bytes
  have hml : c.maxLocals = 1 := hml0
  have hown : s.vm.findClass "java/lang/Record" = some m.cls := findClass_of_methodNamed Bd.named
  have hnm := (name_of_methodNamed Bd.named Bd.method).1
  have X0 : Stand p l e ({ frames := 1, cells := 0, slots := 0, locals := 12 } : Room) s m #[(.ref a1)] below meth c s₁ [] 0 0 := Stand.of_body Bd
  have e0 : s₁.heap = h0 := by rw [← hh, Bd.state]; rfl
  have N0 := Fr.nil n0
  have pre0 : ∀ t, Steps p.tables e below (s₁.setTop (mkF m 0 #[.val (.ref a1)] [])) t → Steps p.tables e below (s₁.setTop (entryFrame m #[(.ref a1)] 1)) t := fun t k => castTop (ef_2_x m a1) k
  have J1 : ∀ t, Steps p.tables e below (s₁.setTop (mkF m 1 #[.val (.ref a1)] [(.ref a1)])) t → Steps p.tables e below (s₁.setTop (entryFrame m #[(.ref a1)] 1)) t := fun t k => pre0 t (by
      show Steps p.tables e below (s₁.setTop (mkF m 0 #[.val (.ref a1)] [])) _
      refine XS.aloadN X0.here hx rfl (hb hby d2_0) rfl rfl ?_
      exact k)
  obtain ⟨T2, X2, e2, st2⟩ := initO X0 hx hZ hown (hw _ (List.mem_of_getElem? (i := 12) rfl)) (hw _ (List.mem_of_getElem? (i := 13) rfl)) (hw _ (List.mem_of_getElem? (i := 14) rfl)) e0 (g := (mkF m 1 #[.val (.ref a1)] [(.ref a1)])) rfl (by rw [hml]; rfl) rfl (hb hby d2_1) (by decide) (W := 0) (by show 2 * 0 + _ ≤ _; exact Nat.le_of_eq rfl) (by decide)
  have J3 : ∀ t, Steps p.tables e below (T2.setTop (mkF m 4 #[.val (.ref a1)] [])) t → Steps p.tables e below (s₁.setTop (entryFrame m #[(.ref a1)] 1)) t := fun t k => J1 t (st2 t k)
  obtain ⟨fs, hr, hrun, hended, hW, hsame⟩ := X2.leave (v := none) (fun _ => rfl)
  refine ⟨_, _, J3 _ ?_, hrun, hended, _, _, rfl, ?_, ⟨_, rfl⟩, hW, hsame.mono (by decide) (by decide)⟩
  · show Steps p.tables e below (T2.setTop (mkF m 4 #[.val (.ref a1)] [])) _
    exact X2.returnOut hx Bd.returns (hb hby d2_4) hr
  · show Q2 Z a1 h0 n0 _ T2.heap _
    rw [e2]
    exact ⟨rfl, N0, rfl⟩
theorem d4_0 : decode prog_54_method_3_code 0 = .ok (.iconst 0, 1) := by decide +kernel
theorem d4_1 : decode prog_54_method_3_code 1 = .ok (.iload_n 0, 1) := by decide +kernel
theorem d4_2 : decode prog_54_method_3_code 2 = .ok (.if_icmp .gt 18, 3) := by decide +kernel
theorem d4_5 : decode prog_54_method_3_code 5 = .ok (.iload_n 0, 1) := by decide +kernel
theorem d4_6 : decode prog_54_method_3_code 6 = .ok (.iload_n 1, 1) := by decide +kernel
theorem d4_7 : decode prog_54_method_3_code 7 = .ok (.if_icmp .gt 13, 3) := by decide +kernel
theorem d4_10 : decode prog_54_method_3_code 10 = .ok (.iload_n 1, 1) := by decide +kernel
theorem d4_11 : decode prog_54_method_3_code 11 = .ok (.bipush 23, 2) := by decide +kernel
theorem d4_13 : decode prog_54_method_3_code 13 = .ok (.if_icmp .gt 7, 3) := by decide +kernel
theorem d4_16 : decode prog_54_method_3_code 16 = .ok (.iconst 1, 1) := by decide +kernel
theorem d4_17 : decode prog_54_method_3_code 17 = .ok (.goto 4, 3) := by decide +kernel
theorem d4_21 : decode prog_54_method_3_code 21 = .ok (.ireturn, 1) := by decide +kernel
theorem pn_4 : plainName "com/example/capwright/capwright/ipr/PeakHours" = true := by first | (simp [plainName, overriddenIn]; done) | decide +kernel
theorem ef_4_xx (m : MethodId) (x0 : Int32) (x1 : Int32) : entryFrame m #[(.int x0), (.int x1)] 2 = mkF m 0 #[.val (.int x0), .val (.int x1)] [] := by first | (simp [entryFrame, mkF, argsToLocals, Value.category]; done) | rfl
def Q4 (Z : State) (p1 : Int32) (p2 : Int32) (h0 : Heap) (n0 : Nat) (v : Option Value) (h : Heap) (L : List Loc) : Prop := v = some (.int (1 : Int32)) ∧ Fr n0 L ∧ h = h0
set_option maxRecDepth 65536 in
set_option maxHeartbeats 40000000 in
theorem rm4 (l : Launch) (Z : State) (a0 : Array Value) (hw : ∀ d ∈ tables_1, d.before a0 Z = true) (ws : List Jvm.Cond) (p1 : Int32) (p2 : Int32) (h0 : Heap) (n0 : Nat) (Z0 : n0 ≤ h0.size) (hc2 : ¬ (p1 < (0 : Int32))) (hc7 : ¬ (p2 < p1)) (hc13 : ¬ ((23 : Int32) < p2)) :
    MetFree l (⟨"com/example/capwright/capwright/ipr/PeakHours", "isWindow", "(II)Z"⟩ : MethodName) (head1 (Jvm.Cond.code (⟨"com/example/capwright/capwright/ipr/PeakHours", "isWindow", "(II)Z"⟩ : MethodName) prog_54_method_3_code 2 (some .boolean) :: ws) ({ frames := 0, cells := 0, slots := 0, locals := 0 } : Room)) (fun a U => a = #[(.int p1), (.int p2)] ∧ Z.Warmed39 U.vm ∧ U.heap = h0) (fun _ _ _ _ _ => True) (fun _ U o U' => ∃ v L, o = .returned v ∧ Q4 Z p1 p2 h0 n0 v U'.heap L ∧ FrameEnd U o U' L ({ frames := 0, cells := 0, slots := 0, locals := 0 } : Room).cells ({ frames := 0, cells := 0, slots := 0, locals := 0 } : Room).slots) := by
  refine MetFree.of_bodySF (plainFor_of_name pn_4) hisR ?_
  intro p e s m args below meth c s₁ Bd hml0 hP hK
  obtain ⟨rfl, hZ, hh⟩ := hP
  have hx := Bd.exec
  have hby := Bd.bytes
  have hml : c.maxLocals = 2 := hml0
  have hown : s.vm.findClass "com/example/capwright/capwright/ipr/PeakHours" = some m.cls := findClass_of_methodNamed Bd.named
  have hnm := (name_of_methodNamed Bd.named Bd.method).1
  have X0 : Stand p l e ({ frames := 0, cells := 0, slots := 0, locals := 0 } : Room) s m #[(.int p1), (.int p2)] below meth c s₁ [] 0 0 := Stand.of_body Bd
  have e0 : s₁.heap = h0 := by rw [← hh, Bd.state]; rfl
  have N0 := Fr.nil n0
  have pre0 : ∀ t, Steps p.tables e below (s₁.setTop (mkF m 0 #[.val (.int p1), .val (.int p2)] [])) t → Steps p.tables e below (s₁.setTop (entryFrame m #[(.int p1), (.int p2)] 2)) t := fun t k => castTop (ef_4_xx m p1 p2) k
  have J1 : ∀ t, Steps p.tables e below (s₁.setTop (mkF m 21 #[.val (.int p1), .val (.int p2)] [(.int (1 : Int32))])) t → Steps p.tables e below (s₁.setTop (entryFrame m #[(.int p1), (.int p2)] 2)) t := fun t k => pre0 t (by
      show Steps p.tables e below (s₁.setTop (mkF m 0 #[.val (.int p1), .val (.int p2)] [])) _
      refine XS.iconst X0.here hx rfl (hb hby d4_0) ?_
      show Steps p.tables e below (s₁.setTop (mkF m 1 #[.val (.int p1), .val (.int p2)] [(.int (0 : Int32))])) _
      refine XS.iloadN X0.here hx rfl (hb hby d4_1) rfl ?_
      show Steps p.tables e below (s₁.setTop (mkF m 2 #[.val (.int p1), .val (.int p2)] [(.int p1), (.int (0 : Int32))])) _
      refine XS.icmpNo X0.here hx rfl (hb hby d4_2) rfl (flt hc2).2.2.1 ?_
      show Steps p.tables e below (s₁.setTop (mkF m 5 #[.val (.int p1), .val (.int p2)] [])) _
      refine XS.iloadN X0.here hx rfl (hb hby d4_5) rfl ?_
      show Steps p.tables e below (s₁.setTop (mkF m 6 #[.val (.int p1), .val (.int p2)] [(.int p1)])) _
      refine XS.iloadN X0.here hx rfl (hb hby d4_6) rfl ?_
      show Steps p.tables e below (s₁.setTop (mkF m 7 #[.val (.int p1), .val (.int p2)] [(.int p2), (.int p1)])) _
      refine XS.icmpNo X0.here hx rfl (hb hby d4_7) rfl (flt hc7).2.2.1 ?_
      show Steps p.tables e below (s₁.setTop (mkF m 10 #[.val (.int p1), .val (.int p2)] [])) _
      refine XS.iloadN X0.here hx rfl (hb hby d4_10) rfl ?_
      show Steps p.tables e below (s₁.setTop (mkF m 11 #[.val (.int p1), .val (.int p2)] [(.int p2)])) _
      refine XS.bipush X0.here hx rfl (hb hby d4_11) ?_
      show Steps p.tables e below (s₁.setTop (mkF m 13 #[.val (.int p1), .val (.int p2)] [(.int (23 : Int32)), (.int p2)])) _
      refine XS.icmpNo X0.here hx rfl (hb hby d4_13) rfl (flt hc13).2.2.1 ?_
      show Steps p.tables e below (s₁.setTop (mkF m 16 #[.val (.int p1), .val (.int p2)] [])) _
      refine XS.iconst X0.here hx rfl (hb hby d4_16) ?_
      show Steps p.tables e below (s₁.setTop (mkF m 17 #[.val (.int p1), .val (.int p2)] [(.int (1 : Int32))])) _
      refine XS.goto X0.here hx rfl (pc0 := 17) (pc' := 21) rfl (hb hby d4_17) (by decide) (by decide) ?_
      exact k)
  obtain ⟨fs, hr, hrun, hended, hW, hsame⟩ := X0.leave (v := some (.int (1 : Int32))) (fun h => by rw [Bd.returns] at h; cases h)
  refine ⟨_, _, J1 _ ?_, hrun, hended, _, _, rfl, ?_, ⟨_, rfl⟩, hW, hsame.mono (by decide) (by decide)⟩
  · show Steps p.tables e below (s₁.setTop (mkF m 21 #[.val (.int p1), .val (.int p2)] [(.int (1 : Int32))])) _
    exact retN X0 hx (t := .boolean) Bd.returns (by simp) (hb hby d4_21) hr
  · show Q4 Z p1 p2 h0 n0 _ s₁.heap _
    rw [e0]
    exact ⟨rfl, N0, rfl⟩
theorem d5_0 : decode prog_54_method_4_code 0 = .ok (.aload_n 0, 1) := by decide +kernel
theorem d5_1 : decode prog_54_method_4_code 1 = .ok (.getfield 44, 3) := by decide +kernel
theorem d5_4 : decode prog_54_method_4_code 4 = .ok (.aload_n 0, 1) := by decide +kernel
theorem d5_5 : decode prog_54_method_4_code 5 = .ok (.getfield 40, 3) := by decide +kernel
theorem d5_8 : decode prog_54_method_4_code 8 = .ok (.isub, 1) := by decide +kernel
theorem d5_9 : decode prog_54_method_4_code 9 = .ok (.iconst 1, 1) := by decide +kernel
theorem d5_10 : decode prog_54_method_4_code 10 = .ok (.iadd, 1) := by decide +kernel
theorem d5_11 : decode prog_54_method_4_code 11 = .ok (.ireturn, 1) := by decide +kernel
theorem pn_5 : plainName "com/example/capwright/capwright/ipr/PeakHours" = true := by first | (simp [plainName, overriddenIn]; done) | decide +kernel
theorem ef_5_x (m : MethodId) (x0 : Addr) : entryFrame m #[(.ref x0)] 1 = mkF m 0 #[.val (.ref x0)] [] := by first | (simp [entryFrame, mkF, argsToLocals, Value.category]; done) | rfl
def Q5 (Z : State) (a1 : Addr) (w2 : Int32) (w4 : Int32) (h0 : Heap) (n0 : Nat) (v : Option Value) (h : Heap) (L : List Loc) : Prop := v = some (.int ((w2 - w4) + (1 : Int32))) ∧ Fr n0 L ∧ h = h0
set_option maxRecDepth 65536 in
set_option maxHeartbeats 40000000 in
theorem rm5 (l : Launch) (Z : State) (a0 : Array Value) (hw : ∀ d ∈ tables_1, d.before a0 Z = true) (ws : List Jvm.Cond) (a1 : Addr) (w2 : Int32) (w4 : Int32) (h0 : Heap) (n0 : Nat) (Z0 : n0 ≤ h0.size) (F_last_a1 : Fld Z h0 a1 "com/example/capwright/capwright/ipr/PeakHours" "last" "I" (.int w2)) (F_first_a1 : Fld Z h0 a1 "com/example/capwright/capwright/ipr/PeakHours" "first" "I" (.int w4)) :
    MetFree l (⟨"com/example/capwright/capwright/ipr/PeakHours", "count", "()I"⟩ : MethodName) (head1 (Jvm.Cond.code (⟨"com/example/capwright/capwright/ipr/PeakHours", "count", "()I"⟩ : MethodName) prog_54_method_4_code 1 (some .int) :: ws) ({ frames := 0, cells := 0, slots := 0, locals := 0 } : Room)) (fun a U => a = #[(.ref a1)] ∧ Z.Warmed39 U.vm ∧ U.heap = h0) (fun _ _ _ _ _ => True) (fun _ U o U' => ∃ v L, o = .returned v ∧ Q5 Z a1 w2 w4 h0 n0 v U'.heap L ∧ FrameEnd U o U' L ({ frames := 0, cells := 0, slots := 0, locals := 0 } : Room).cells ({ frames := 0, cells := 0, slots := 0, locals := 0 } : Room).slots) := by
  refine MetFree.of_bodySF (plainFor_of_name pn_5) hisR ?_
  intro p e s m args below meth c s₁ Bd hml0 hP hK
  obtain ⟨rfl, hZ, hh⟩ := hP
  have hx := Bd.exec
  have hby := Bd.bytes
  have hml : c.maxLocals = 1 := hml0
  have hown : s.vm.findClass "com/example/capwright/capwright/ipr/PeakHours" = some m.cls := findClass_of_methodNamed Bd.named
  have hnm := (name_of_methodNamed Bd.named Bd.method).1
  have X0 : Stand p l e ({ frames := 0, cells := 0, slots := 0, locals := 0 } : Room) s m #[(.ref a1)] below meth c s₁ [] 0 0 := Stand.of_body Bd
  have e0 : s₁.heap = h0 := by rw [← hh, Bd.state]; rfl
  have N0 := Fr.nil n0
  have pre0 : ∀ t, Steps p.tables e below (s₁.setTop (mkF m 0 #[.val (.ref a1)] [])) t → Steps p.tables e below (s₁.setTop (entryFrame m #[(.ref a1)] 1)) t := fun t k => castTop (ef_5_x m a1) k
  have J1 : ∀ t, Steps p.tables e below (s₁.setTop (mkF m 1 #[.val (.ref a1)] [(.ref a1)])) t → Steps p.tables e below (s₁.setTop (entryFrame m #[(.ref a1)] 1)) t := fun t k => pre0 t (by
      show Steps p.tables e below (s₁.setTop (mkF m 0 #[.val (.ref a1)] [])) _
      refine XS.aloadN X0.here hx rfl (hb hby d5_0) rfl rfl ?_
      exact k)
  obtain ⟨T2, X2, e2, st2⟩ := getF X0 hx hZ hown (host := "") (Or.inl (hw _ (List.mem_of_getElem? (i := 20) rfl))) Via.refl e0 F_last_a1 (g := (mkF m 1 #[.val (.ref a1)] [(.ref a1)])) rfl rfl (hb hby d5_1)
  have J3 : ∀ t, Steps p.tables e below (T2.setTop (mkF m 4 #[.val (.ref a1)] [(.int w2)])) t → Steps p.tables e below (s₁.setTop (entryFrame m #[(.ref a1)] 1)) t := fun t k => J1 t (st2 t k)
  have J4 : ∀ t, Steps p.tables e below (T2.setTop (mkF m 5 #[.val (.ref a1)] [(.ref a1), (.int w2)])) t → Steps p.tables e below (s₁.setTop (entryFrame m #[(.ref a1)] 1)) t := fun t k => J3 t (by
      show Steps p.tables e below (T2.setTop (mkF m 4 #[.val (.ref a1)] [(.int w2)])) _
      refine XS.aloadN X2.here hx rfl (hb hby d5_4) rfl rfl ?_
      exact k)
  obtain ⟨T5, X5, e5, st5⟩ := getF X2 hx hZ hown (host := "") (Or.inl (hw _ (List.mem_of_getElem? (i := 18) rfl))) Via.refl e2 F_first_a1 (g := (mkF m 5 #[.val (.ref a1)] [(.ref a1), (.int w2)])) rfl rfl (hb hby d5_5)
  have J6 : ∀ t, Steps p.tables e below (T5.setTop (mkF m 8 #[.val (.ref a1)] [(.int w4), (.int w2)])) t → Steps p.tables e below (s₁.setTop (entryFrame m #[(.ref a1)] 1)) t := fun t k => J4 t (st5 t k)
  have J7 : ∀ t, Steps p.tables e below (T5.setTop (mkF m 11 #[.val (.ref a1)] [(.int ((w2 - w4) + (1 : Int32)))])) t → Steps p.tables e below (s₁.setTop (entryFrame m #[(.ref a1)] 1)) t := fun t k => J6 t (by
      show Steps p.tables e below (T5.setTop (mkF m 8 #[.val (.ref a1)] [(.int w4), (.int w2)])) _
      refine XS.isub X5.here hx rfl (hb hby d5_8) rfl ?_
      show Steps p.tables e below (T5.setTop (mkF m 9 #[.val (.ref a1)] [(.int (w2 - w4))])) _
      refine XS.iconst X5.here hx rfl (hb hby d5_9) ?_
      show Steps p.tables e below (T5.setTop (mkF m 10 #[.val (.ref a1)] [(.int (1 : Int32)), (.int (w2 - w4))])) _
      refine XS.iadd X5.here hx rfl (hb hby d5_10) rfl ?_
      exact k)
  obtain ⟨fs, hr, hrun, hended, hW, hsame⟩ := X5.leave (v := some (.int ((w2 - w4) + (1 : Int32)))) (fun h => by rw [Bd.returns] at h; cases h)
  refine ⟨_, _, J7 _ ?_, hrun, hended, _, _, rfl, ?_, ⟨_, rfl⟩, hW, hsame.mono (by decide) (by decide)⟩
  · show Steps p.tables e below (T5.setTop (mkF m 11 #[.val (.ref a1)] [(.int ((w2 - w4) + (1 : Int32)))])) _
    exact retI X5 hx Bd.returns (hb hby d5_11) hr
  · show Q5 Z a1 w2 w4 h0 n0 _ T5.heap _
    rw [e5]
    exact ⟨rfl, N0, rfl⟩
theorem d1_0 : decode prog_54_method_1_code 0 = .ok (.aload_n 0, 1) := by decide +kernel
theorem d1_1 : decode prog_54_method_1_code 1 = .ok (.invokespecial 1, 3) := by decide +kernel
theorem pd_0 : parseMethodDescriptor "()V" = some ⟨[], none⟩ := by decide +kernel
theorem d1_4 : decode prog_54_method_1_code 4 = .ok (.iload_n 1, 1) := by decide +kernel
theorem d1_5 : decode prog_54_method_1_code 5 = .ok (.iload_n 2, 1) := by decide +kernel
theorem d1_6 : decode prog_54_method_1_code 6 = .ok (.invokestatic 7, 3) := by decide +kernel
theorem pd_1 : parseMethodDescriptor "(II)Z" = some ⟨[.int, .int], some .boolean⟩ := by decide +kernel
theorem d1_9 : decode prog_54_method_1_code 9 = .ok (.ifCond .ne 37, 3) := by decide +kernel
theorem d1_46 : decode prog_54_method_1_code 46 = .ok (.aload_n 0, 1) := by decide +kernel
theorem d1_47 : decode prog_54_method_1_code 47 = .ok (.iload_n 1, 1) := by decide +kernel
theorem d1_48 : decode prog_54_method_1_code 48 = .ok (.putfield 40, 3) := by decide +kernel
theorem d1_51 : decode prog_54_method_1_code 51 = .ok (.aload_n 0, 1) := by decide +kernel
theorem d1_52 : decode prog_54_method_1_code 52 = .ok (.iload_n 2, 1) := by decide +kernel
theorem d1_53 : decode prog_54_method_1_code 53 = .ok (.putfield 44, 3) := by decide +kernel
theorem d1_56 : decode prog_54_method_1_code 56 = .ok (.return_, 1) := by decide +kernel
theorem pn_1 : plainName "com/example/capwright/capwright/ipr/PeakHours" = true := by first | (simp [plainName, overriddenIn]; done) | decide +kernel
theorem ef_1_xxx (m : MethodId) (x0 : Addr) (x1 : Int32) (x2 : Int32) : entryFrame m #[(.ref x0), (.int x1), (.int x2)] 3 = mkF m 0 #[.val (.ref x0), .val (.int x1), .val (.int x2)] [] := by first | (simp [entryFrame, mkF, argsToLocals, Value.category]; done) | rfl
def Q1 (Z : State) (a1 : Addr) (p2 : Int32) (p3 : Int32) (v1 : Value) (v2 : Value) (h0 : Heap) (n0 : Nat) (v : Option Value) (h : Heap) (L : List Loc) : Prop := v = none ∧ Fr n0 L ∧ Keep h0 h [a1] ∧ (Exa Z h a1 "com/example/capwright/capwright/ipr/PeakHours") ∧ (Fld Z h a1 "com/example/capwright/capwright/ipr/PeakHours" "first" "I" (.int p2)) ∧ (Fld Z h a1 "com/example/capwright/capwright/ipr/PeakHours" "last" "I" (.int p3))
set_option maxRecDepth 65536 in
set_option maxHeartbeats 40000000 in
theorem rm1 (l : Launch) (Z : State) (a0 : Array Value) (hw : ∀ d ∈ tables_1, d.before a0 Z = true) (ws : List Jvm.Cond) (a1 : Addr) (p2 : Int32) (p3 : Int32) (v1 : Value) (v2 : Value) (h0 : Heap) (n0 : Nat) (Z0 : n0 ≤ h0.size) (E_a1 : Exa Z h0 a1 "com/example/capwright/capwright/ipr/PeakHours") (F_first_a1 : Fld Z h0 a1 "com/example/capwright/capwright/ipr/PeakHours" "first" "I" v1) (F_last_a1 : Fld Z h0 a1 "com/example/capwright/capwright/ipr/PeakHours" "last" "I" v2) (g_a1 : n0 ≤ a1) (hc2 : ¬ (p2 < (0 : Int32))) (hc7 : ¬ (p3 < p2)) (hc13 : ¬ ((23 : Int32) < p3)) :
    MetFree l (⟨"com/example/capwright/capwright/ipr/PeakHours", "<init>", "(II)V"⟩ : MethodName) (head1 (Jvm.Cond.code (⟨"com/example/capwright/capwright/ipr/PeakHours", "<init>", "(II)V"⟩ : MethodName) prog_54_method_1_code 3 none :: ws) ({ frames := 2, cells := 0, slots := 0, locals := 24 } : Room)) (fun a U => a = #[(.ref a1), (.int p2), (.int p3)] ∧ Z.Warmed39 U.vm ∧ U.heap = h0) (fun _ _ _ _ _ => True) (fun _ U o U' => ∃ v L, o = .returned v ∧ Q1 Z a1 p2 p3 v1 v2 h0 n0 v U'.heap L ∧ FrameEnd U o U' L ({ frames := 2, cells := 0, slots := 0, locals := 24 } : Room).cells ({ frames := 2, cells := 0, slots := 0, locals := 24 } : Room).slots) := by
  refine MetFree.of_bodySF (plainFor_of_name pn_1) hisR ?_
  intro p e s m args below meth c s₁ Bd hml0 hP hK
  obtain ⟨rfl, hZ, hh⟩ := hP
  have hx := Bd.exec
  have hby := Bd.bytes
  have hml : c.maxLocals = 3 := hml0
  have hown : s.vm.findClass "com/example/capwright/capwright/ipr/PeakHours" = some m.cls := findClass_of_methodNamed Bd.named
  have hnm := (name_of_methodNamed Bd.named Bd.method).1
  have X0 : Stand p l e ({ frames := 2, cells := 0, slots := 0, locals := 24 } : Room) s m #[(.ref a1), (.int p2), (.int p3)] below meth c s₁ [] 0 0 := Stand.of_body Bd
  have e0 : s₁.heap = h0 := by rw [← hh, Bd.state]; rfl
  have N0 := Fr.nil n0
  have pre0 : ∀ t, Steps p.tables e below (s₁.setTop (mkF m 0 #[.val (.ref a1), .val (.int p2), .val (.int p3)] [])) t → Steps p.tables e below (s₁.setTop (entryFrame m #[(.ref a1), (.int p2), (.int p3)] 3)) t := fun t k => castTop (ef_1_xxx m a1 p2 p3) k
  have J1 : ∀ t, Steps p.tables e below (s₁.setTop (mkF m 1 #[.val (.ref a1), .val (.int p2), .val (.int p3)] [(.ref a1)])) t → Steps p.tables e below (s₁.setTop (entryFrame m #[(.ref a1), (.int p2), (.int p3)] 3)) t := fun t k => pre0 t (by
      show Steps p.tables e below (s₁.setTop (mkF m 0 #[.val (.ref a1), .val (.int p2), .val (.int p3)] [])) _
      refine XS.aloadN X0.here hx rfl (hb hby d1_0) rfl rfl ?_
      exact k)
  obtain ⟨_, _, ⟨T2, L2, k2, n2⟩, -, X2, ⟨Lc2, hQ2, l2, y2, z2⟩, st2⟩ := X0.specialBack hx (y := (⟨"java/lang/Record", "<init>", "()V"⟩ : MethodName)) rfl hown (mvT hZ (hw _ (List.mem_of_getElem? (i := 7) rfl))) (mvT hZ (hw _ (List.mem_of_getElem? (i := 8) rfl))) (mvT hZ (hw _ (List.mem_of_getElem? (i := 11) rfl))) (by decide) (backOf (W := 0) (rm2 l Z a0 hw [] a1 h0 n0 Z0 ) hZ (hw _ (List.mem_of_getElem? (i := 11) rfl)) (hw _ (List.mem_of_getElem? (i := 10) rfl)) (by decide) (by decide)) (g := (mkF m 1 #[.val (.ref a1), .val (.int p2), .val (.int p3)] [(.ref a1)])) rfl (by rw [hml]; rfl) (Steps.refl _) (a := a1) (argsL := []) (rest := []) (lenOf pd_0 rfl) rfl (by show 2 * 0 + _ ≤ _; exact Nat.le_of_eq rfl) (hb hby d1_1) (fun _ _ => ⟨rfl, e0, (by decide : 0 + 0 ≤ _), (by decide : 0 + 0 ≤ _)⟩)
  dsimp only [Pt.U, Pt.locs, Pt.cells, Pt.slots] at X2 l2 y2 z2 st2 hQ2
  subst l2 y2 z2
  obtain ⟨rfl, Nq2, e2⟩ := hQ2
  have N3 := Fr.app N0 Nq2
  have J4 : ∀ t, Steps p.tables e below (T2.setTop (mkF m 4 #[.val (.ref a1), .val (.int p2), .val (.int p3)] [])) t → Steps p.tables e below (s₁.setTop (entryFrame m #[(.ref a1), (.int p2), (.int p3)] 3)) t := fun t k => J1 t (st2.trans k)
  have J5 : ∀ t, Steps p.tables e below (T2.setTop (mkF m 6 #[.val (.ref a1), .val (.int p2), .val (.int p3)] [(.int p3), (.int p2)])) t → Steps p.tables e below (s₁.setTop (entryFrame m #[(.ref a1), (.int p2), (.int p3)] 3)) t := fun t k => J4 t (by
      show Steps p.tables e below (T2.setTop (mkF m 4 #[.val (.ref a1), .val (.int p2), .val (.int p3)] [])) _
      refine XS.iloadN X2.here hx rfl (hb hby d1_4) rfl ?_
      show Steps p.tables e below (T2.setTop (mkF m 5 #[.val (.ref a1), .val (.int p2), .val (.int p3)] [(.int p2)])) _
      refine XS.iloadN X2.here hx rfl (hb hby d1_5) rfl ?_
      exact k)
  obtain ⟨_, _, ⟨T6, L6, k6, n6⟩, -, X6, ⟨Lc6, hQ6, l6, y6, z6⟩, st6⟩ := Jvm.LawKit.callS X2 hx (y := (⟨"com/example/capwright/capwright/ipr/PeakHours", "isWindow", "(II)Z"⟩ : MethodName)) hown (mvT hZ (hw _ (List.mem_of_getElem? (i := 15) rfl))) (mvT hZ (hw _ (List.mem_of_getElem? (i := 16) rfl))) (mvT hZ (hw _ (List.mem_of_getElem? (i := 3) rfl))) (mvT hZ (hw _ (List.mem_of_getElem? (i := 17) rfl))) (by decide) (backOf (W := 0) (rm4 l Z a0 hw [] p2 p3 h0 n0 Z0 hc2 hc7 hc13) hZ (hw _ (List.mem_of_getElem? (i := 17) rfl)) (hw _ (List.mem_of_getElem? (i := 3) rfl)) (by decide) (by decide)) (g := (mkF m 6 #[.val (.ref a1), .val (.int p2), .val (.int p3)] [(.int p3), (.int p2)])) rfl (by rw [hml]; rfl) (argsL := [(.int p2), (.int p3)]) (rest := []) (lenOf pd_1 rfl) rfl (by show 2 * 0 + _ ≤ _; exact Nat.le_of_eq rfl) (hb hby d1_6) (fun _ _ => ⟨rfl, e2, (by decide : 0 + 0 ≤ _), (by decide : 0 + 0 ≤ _)⟩)
  dsimp only [Pt.U, Pt.locs, Pt.cells, Pt.slots] at X6 l6 y6 z6 st6 hQ6
  subst l6 y6 z6
  obtain ⟨rfl, Nq6, e6⟩ := hQ6
  have N7 := Fr.app N3 Nq6
  have J8 : ∀ t, Steps p.tables e below (T6.setTop (mkF m 9 #[.val (.ref a1), .val (.int p2), .val (.int p3)] [(.int (1 : Int32))])) t → Steps p.tables e below (s₁.setTop (entryFrame m #[(.ref a1), (.int p2), (.int p3)] 3)) t := fun t k => J5 t (st6 t k)
  have J9 : ∀ t, Steps p.tables e below (T6.setTop (mkF m 48 #[.val (.ref a1), .val (.int p2), .val (.int p3)] [(.int p2), (.ref a1)])) t → Steps p.tables e below (s₁.setTop (entryFrame m #[(.ref a1), (.int p2), (.int p3)] 3)) t := fun t k => J8 t (by
      show Steps p.tables e below (T6.setTop (mkF m 9 #[.val (.ref a1), .val (.int p2), .val (.int p3)] [(.int (1 : Int32))])) _
      refine XS.ifYes X6.here hx rfl (pc0 := 9) (pc' := 46) rfl (hb hby d1_9) rfl ((if0 _ _).trans (feq (by decide)).2) (by decide) (by decide) ?_
      show Steps p.tables e below (T6.setTop (mkF m 46 #[.val (.ref a1), .val (.int p2), .val (.int p3)] [])) _
      refine XS.aloadN X6.here hx rfl (hb hby d1_46) rfl rfl ?_
      show Steps p.tables e below (T6.setTop (mkF m 47 #[.val (.ref a1), .val (.int p2), .val (.int p3)] [(.ref a1)])) _
      refine XS.iloadN X6.here hx rfl (hb hby d1_47) rfl ?_
      exact k)
  obtain ⟨T10, h10, X10, e10, W10, st10⟩ := putF X6 hx hZ hown (host := "") (Or.inl (hw _ (List.mem_of_getElem? (i := 18) rfl))) Via.refl e6 F_first_a1 E_a1 (Or.inr ⟨(hw _ (List.mem_of_getElem? (i := 19) rfl)), rfl, hnm⟩) (hw _ (List.mem_of_getElem? (i := 2) rfl)) (ty := .int) (by decide) rfl rfl (g := (mkF m 48 #[.val (.ref a1), .val (.int p2), .val (.int p3)] [(.int p2), (.ref a1)])) rfl rfl (hb hby d1_48)
  have J11 : ∀ t, Steps p.tables e below (T10.setTop (mkF m 51 #[.val (.ref a1), .val (.int p2), .val (.int p3)] [])) t → Steps p.tables e below (s₁.setTop (entryFrame m #[(.ref a1), (.int p2), (.int p3)] 3)) t := fun t k => J9 t (st10 t k)
  have Z12 : n0 ≤ h10.size := Nat.le_trans Z0 (Keep.of_wr W10).1
  have KK13 : Keep h0 h10 [a1] := (Keep.refl h0 [a1]).wr W10 (Or.inl (List.mem_of_getElem? (i := 0) rfl))
  have N14 := Fr.snoc X10 N7 g_a1
  have Fw10 := F_first_a1.same W10
  have J15 : ∀ t, Steps p.tables e below (T10.setTop (mkF m 53 #[.val (.ref a1), .val (.int p2), .val (.int p3)] [(.int p3), (.ref a1)])) t → Steps p.tables e below (s₁.setTop (entryFrame m #[(.ref a1), (.int p2), (.int p3)] 3)) t := fun t k => J11 t (by
      show Steps p.tables e below (T10.setTop (mkF m 51 #[.val (.ref a1), .val (.int p2), .val (.int p3)] [])) _
      refine XS.aloadN X10.here hx rfl (hb hby d1_51) rfl rfl ?_
      show Steps p.tables e below (T10.setTop (mkF m 52 #[.val (.ref a1), .val (.int p2), .val (.int p3)] [(.ref a1)])) _
      refine XS.iloadN X10.here hx rfl (hb hby d1_52) rfl ?_
      exact k)
  have f16 := F_last_a1.other W10 (Or.inr (slot_ne (Or.inr (hw _ (List.mem_of_getElem? (i := 21) rfl))) (Or.inr (hw _ (List.mem_of_getElem? (i := 19) rfl))) (by decide) (t := .int) (t' := .int) (by decide) (by decide)))
  have f17 := E_a1.wr W10
  obtain ⟨T18, h18, X18, e18, W18, st18⟩ := putF X10 hx hZ hown (host := "") (Or.inl (hw _ (List.mem_of_getElem? (i := 20) rfl))) Via.refl e10 f16 f17 (Or.inr ⟨(hw _ (List.mem_of_getElem? (i := 21) rfl)), rfl, hnm⟩) (hw _ (List.mem_of_getElem? (i := 2) rfl)) (ty := .int) (by decide) rfl rfl (g := (mkF m 53 #[.val (.ref a1), .val (.int p2), .val (.int p3)] [(.int p3), (.ref a1)])) rfl rfl (hb hby d1_53)
  have J19 : ∀ t, Steps p.tables e below (T18.setTop (mkF m 56 #[.val (.ref a1), .val (.int p2), .val (.int p3)] [])) t → Steps p.tables e below (s₁.setTop (entryFrame m #[(.ref a1), (.int p2), (.int p3)] 3)) t := fun t k => J15 t (st18 t k)
  have Z20 : n0 ≤ h18.size := Nat.le_trans Z12 (Keep.of_wr W18).1
  have KK21 : Keep h0 h18 [a1] := KK13.wr W18 (Or.inl (List.mem_of_getElem? (i := 0) rfl))
  have N22 := Fr.snoc X18 N14 g_a1
  have Fw18 := f16.same W18
  obtain ⟨fs, hr, hrun, hended, hW, hsame⟩ := X18.leave (v := none) (fun _ => rfl)
  have f23 := f17.wr W18
  have f24 := Fw10.other W18 (Or.inr (slot_ne (Or.inr (hw _ (List.mem_of_getElem? (i := 19) rfl))) (Or.inr (hw _ (List.mem_of_getElem? (i := 21) rfl))) (by decide) (t := .int) (t' := .int) (by decide) (by decide)))
  refine ⟨_, _, J19 _ ?_, hrun, hended, _, _, rfl, ?_, ⟨_, rfl⟩, hW, hsame.mono (by decide) (by decide)⟩
  · show Steps p.tables e below (T18.setTop (mkF m 56 #[.val (.ref a1), .val (.int p2), .val (.int p3)] [])) _
    exact X18.returnOut hx Bd.returns (hb hby d1_56) hr
  · show Q1 Z a1 p2 p3 v1 v2 h0 n0 _ T18.heap _
    rw [e18]
    exact ⟨rfl, N22, KK21, f23, f24, Fw18⟩
theorem pd_2 : parseMethodDescriptor "(II)V" = some ⟨[.int, .int], none⟩ := by decide +kernel
theorem pd_3 : parseMethodDescriptor "()I" = some ⟨[], some .int⟩ := by decide +kernel
theorem pn_0 : plainName "com/example/capwright/capwright/ipr/PeakHoursCountPinLaw" = true := by first | (simp [plainName, overriddenIn]; done) | decide +kernel
theorem ef_0_xxx (m : MethodId) (x0 : Int32) (x1 : Int32) (x2 : Int32) : entryFrame m #[(.int x0), (.int x1), (.int x2)] maxLocals = mkF m 0 #[.val (.int x0), .val (.int x1), .val (.int x2), .unset, .unset, .unset, .unset, .unset, .unset, .unset, .unset, .unset, .unset, .unset, .unset] [] := by first | (simp [entryFrame, mkF, argsToLocals, Value.category, maxLocals]; done) | rfl
def Q0 (Z : State) (p1 : Int32) (p2 : Int32) (p3 : Int32) (h0 : Heap) (n0 : Nat) (v : Option Value) (h : Heap) (L : List Loc) : Prop := v = some (.int (1 : Int32)) ∧ Fr n0 L
set_option maxRecDepth 65536 in
set_option maxHeartbeats 40000000 in
theorem rm0 (l : Launch) (Z : State) (a0 : Array Value) (hw : ∀ d ∈ tables_1, d.before a0 Z = true) (ws : List Jvm.Cond) (p1 : Int32) (p2 : Int32) (p3 : Int32) (h0 : Heap) (n0 : Nat) (Z0 : n0 ≤ h0.size) :
    MetFree l x (head1 (Jvm.Cond.code x code maxLocals ret :: ws) room_1) (fun a U => a = #[(.int p1), (.int p2), (.int p3)] ∧ Z.Warmed39 U.vm ∧ U.heap = h0) (fun _ _ _ _ _ => True) (fun _ U o U' => ∃ v L, o = .returned v ∧ Q0 Z p1 p2 p3 h0 n0 v U'.heap L ∧ FrameEnd U o U' L room_1.cells room_1.slots) := by
  refine MetFree.of_bodySF (plainFor_of_name pn_0) hisR ?_
  intro p e s m args below meth c s₁ Bd hml0 hP hK
  obtain ⟨rfl, hZ, hh⟩ := hP
  have hx := Bd.exec
  have hby := Bd.bytes
  have hml : c.maxLocals = 15 := hml0
  have hown : s.vm.findClass "com/example/capwright/capwright/ipr/PeakHoursCountPinLaw" = some m.cls := findClass_of_methodNamed Bd.named
  have hnm := (name_of_methodNamed Bd.named Bd.method).1
  have X0 : Stand p l e room_1 s m #[(.int p1), (.int p2), (.int p3)] below meth c s₁ [] 0 0 := Stand.of_body Bd
  have e0 : s₁.heap = h0 := by rw [← hh, Bd.state]; rfl
  have N0 := Fr.nil n0
  have pre0 : ∀ t, Steps p.tables e below (s₁.setTop (mkF m 0 #[.val (.int p1), .val (.int p2), .val (.int p3), .unset, .unset, .unset, .unset, .unset, .unset, .unset, .unset, .unset, .unset, .unset, .unset] [])) t → Steps p.tables e below (s₁.setTop (entryFrame m #[(.int p1), (.int p2), (.int p3)] maxLocals)) t := fun t k => castTop (ef_0_xxx m p1 p2 p3) k
  have J1 : ∀ t, Steps p.tables e below (s₁.setTop (mkF m 8 #[.val (.int p1), .val (.int p2), .val (.int p3), .val (.int ((p1 &&& (2147483647 : Int32)) % (24 : Int32))), .unset, .unset, .unset, .unset, .unset, .unset, .unset, .unset, .unset, .unset, .unset] [])) t → Steps p.tables e below (s₁.setTop (entryFrame m #[(.int p1), (.int p2), (.int p3)] maxLocals)) t := fun t k => pre0 t (by
      show Steps p.tables e below (s₁.setTop (mkF m 0 #[.val (.int p1), .val (.int p2), .val (.int p3), .unset, .unset, .unset, .unset, .unset, .unset, .unset, .unset, .unset, .unset, .unset, .unset] [])) _
      refine XS.iloadN X0.here hx rfl (hb hby at_0) rfl ?_
      show Steps p.tables e below (s₁.setTop (mkF m 1 #[.val (.int p1), .val (.int p2), .val (.int p3), .unset, .unset, .unset, .unset, .unset, .unset, .unset, .unset, .unset, .unset, .unset, .unset] [(.int p1)])) _
      refine X0.ldcInt hx hown (mvT hZ (hw _ (List.mem_of_getElem? (i := 0) rfl))) (g := (mkF m 1 #[.val (.int p1), .val (.int p2), .val (.int p3), .unset, .unset, .unset, .unset, .unset, .unset, .unset, .unset, .unset, .unset, .unset, .unset] [(.int p1)])) rfl (hb hby at_1) _ ?_
      show Steps p.tables e below (s₁.setTop (mkF m 3 #[.val (.int p1), .val (.int p2), .val (.int p3), .unset, .unset, .unset, .unset, .unset, .unset, .unset, .unset, .unset, .unset, .unset, .unset] [(.int (2147483647 : Int32)), (.int p1)])) _
      refine XS.iand X0.here hx rfl (hb hby at_3) rfl ?_
      show Steps p.tables e below (s₁.setTop (mkF m 4 #[.val (.int p1), .val (.int p2), .val (.int p3), .unset, .unset, .unset, .unset, .unset, .unset, .unset, .unset, .unset, .unset, .unset, .unset] [(.int (p1 &&& (2147483647 : Int32)))])) _
      refine XS.bipush X0.here hx rfl (hb hby at_4) ?_
      show Steps p.tables e below (s₁.setTop (mkF m 6 #[.val (.int p1), .val (.int p2), .val (.int p3), .unset, .unset, .unset, .unset, .unset, .unset, .unset, .unset, .unset, .unset, .unset, .unset] [(.int (24 : Int32)), (.int (p1 &&& (2147483647 : Int32)))])) _
      refine iremM X0 hx rfl (hb hby at_6) rfl (by decide) ?_
      show Steps p.tables e below (s₁.setTop (mkF m 7 #[.val (.int p1), .val (.int p2), .val (.int p3), .unset, .unset, .unset, .unset, .unset, .unset, .unset, .unset, .unset, .unset, .unset, .unset] [(.int ((p1 &&& (2147483647 : Int32)) % (24 : Int32)))])) _
      refine XS.istoreN X0.here hx rfl (hb hby at_7) rfl (l' := #[.val (.int p1), .val (.int p2), .val (.int p3), .val (.int ((p1 &&& (2147483647 : Int32)) % (24 : Int32))), .unset, .unset, .unset, .unset, .unset, .unset, .unset, .unset, .unset, .unset, .unset]) rfl ?_
      exact k)
  obtain ⟨fi, hfi⟩ : ∃ z : Int32, z = ((p1 &&& (2147483647 : Int32)) % (24 : Int32)) := ⟨_, rfl⟩
  have J2 : ∀ t, Steps p.tables e below (s₁.setTop (mkF m 8 #[.val (.int p1), .val (.int p2), .val (.int p3), .val (.int fi), .unset, .unset, .unset, .unset, .unset, .unset, .unset, .unset, .unset, .unset, .unset] [])) t → Steps p.tables e below (s₁.setTop (entryFrame m #[(.int p1), (.int p2), (.int p3)] maxLocals)) t := fun t k => J1 t (by subst hfi; exact k)
  have bf := own_first p1 fi hfi
  have J3 : ∀ t, Steps p.tables e below (s₁.setTop (mkF m 21 #[.val (.int p1), .val (.int p2), .val (.int p3), .val (.int fi), .val (.int (fi + ((p2 &&& (2147483647 : Int32)) % ((24 : Int32) - fi)))), .unset, .unset, .unset, .unset, .unset, .unset, .unset, .unset, .unset, .unset] [])) t → Steps p.tables e below (s₁.setTop (entryFrame m #[(.int p1), (.int p2), (.int p3)] maxLocals)) t := fun t k => J2 t (by
      show Steps p.tables e below (s₁.setTop (mkF m 8 #[.val (.int p1), .val (.int p2), .val (.int p3), .val (.int fi), .unset, .unset, .unset, .unset, .unset, .unset, .unset, .unset, .unset, .unset, .unset] [])) _
      refine XS.iloadN X0.here hx rfl (hb hby at_8) rfl ?_
      show Steps p.tables e below (s₁.setTop (mkF m 9 #[.val (.int p1), .val (.int p2), .val (.int p3), .val (.int fi), .unset, .unset, .unset, .unset, .unset, .unset, .unset, .unset, .unset, .unset, .unset] [(.int fi)])) _
      refine XS.iloadN X0.here hx rfl (hb hby at_9) rfl ?_
      show Steps p.tables e below (s₁.setTop (mkF m 10 #[.val (.int p1), .val (.int p2), .val (.int p3), .val (.int fi), .unset, .unset, .unset, .unset, .unset, .unset, .unset, .unset, .unset, .unset, .unset] [(.int p2), (.int fi)])) _
      refine X0.ldcInt hx hown (mvT hZ (hw _ (List.mem_of_getElem? (i := 0) rfl))) (g := (mkF m 10 #[.val (.int p1), .val (.int p2), .val (.int p3), .val (.int fi), .unset, .unset, .unset, .unset, .unset, .unset, .unset, .unset, .unset, .unset, .unset] [(.int p2), (.int fi)])) rfl (hb hby at_10) _ ?_
      show Steps p.tables e below (s₁.setTop (mkF m 12 #[.val (.int p1), .val (.int p2), .val (.int p3), .val (.int fi), .unset, .unset, .unset, .unset, .unset, .unset, .unset, .unset, .unset, .unset, .unset] [(.int (2147483647 : Int32)), (.int p2), (.int fi)])) _
      refine XS.iand X0.here hx rfl (hb hby at_12) rfl ?_
      show Steps p.tables e below (s₁.setTop (mkF m 13 #[.val (.int p1), .val (.int p2), .val (.int p3), .val (.int fi), .unset, .unset, .unset, .unset, .unset, .unset, .unset, .unset, .unset, .unset, .unset] [(.int (p2 &&& (2147483647 : Int32))), (.int fi)])) _
      refine XS.bipush X0.here hx rfl (hb hby at_13) ?_
      show Steps p.tables e below (s₁.setTop (mkF m 15 #[.val (.int p1), .val (.int p2), .val (.int p3), .val (.int fi), .unset, .unset, .unset, .unset, .unset, .unset, .unset, .unset, .unset, .unset, .unset] [(.int (24 : Int32)), (.int (p2 &&& (2147483647 : Int32))), (.int fi)])) _
      refine XS.iloadN X0.here hx rfl (hb hby at_15) rfl ?_
      show Steps p.tables e below (s₁.setTop (mkF m 16 #[.val (.int p1), .val (.int p2), .val (.int p3), .val (.int fi), .unset, .unset, .unset, .unset, .unset, .unset, .unset, .unset, .unset, .unset, .unset] [(.int fi), (.int (24 : Int32)), (.int (p2 &&& (2147483647 : Int32))), (.int fi)])) _
      refine XS.isub X0.here hx rfl (hb hby at_16) rfl ?_
      show Steps p.tables e below (s₁.setTop (mkF m 17 #[.val (.int p1), .val (.int p2), .val (.int p3), .val (.int fi), .unset, .unset, .unset, .unset, .unset, .unset, .unset, .unset, .unset, .unset, .unset] [(.int ((24 : Int32) - fi)), (.int (p2 &&& (2147483647 : Int32))), (.int fi)])) _
      refine iremM X0 hx rfl (hb hby at_17) rfl (own_nz24 fi bf) ?_
      show Steps p.tables e below (s₁.setTop (mkF m 18 #[.val (.int p1), .val (.int p2), .val (.int p3), .val (.int fi), .unset, .unset, .unset, .unset, .unset, .unset, .unset, .unset, .unset, .unset, .unset] [(.int ((p2 &&& (2147483647 : Int32)) % ((24 : Int32) - fi))), (.int fi)])) _
      refine XS.iadd X0.here hx rfl (hb hby at_18) rfl ?_
      show Steps p.tables e below (s₁.setTop (mkF m 19 #[.val (.int p1), .val (.int p2), .val (.int p3), .val (.int fi), .unset, .unset, .unset, .unset, .unset, .unset, .unset, .unset, .unset, .unset, .unset] [(.int (fi + ((p2 &&& (2147483647 : Int32)) % ((24 : Int32) - fi))))])) _
      refine XS.istore X0.here hx rfl (hb hby at_19) rfl (l' := #[.val (.int p1), .val (.int p2), .val (.int p3), .val (.int fi), .val (.int (fi + ((p2 &&& (2147483647 : Int32)) % ((24 : Int32) - fi)))), .unset, .unset, .unset, .unset, .unset, .unset, .unset, .unset, .unset, .unset]) rfl ?_
      exact k)
  obtain ⟨la, hla⟩ : ∃ z : Int32, z = (fi + ((p2 &&& (2147483647 : Int32)) % ((24 : Int32) - fi))) := ⟨_, rfl⟩
  have J4 : ∀ t, Steps p.tables e below (s₁.setTop (mkF m 21 #[.val (.int p1), .val (.int p2), .val (.int p3), .val (.int fi), .val (.int la), .unset, .unset, .unset, .unset, .unset, .unset, .unset, .unset, .unset, .unset] [])) t → Steps p.tables e below (s₁.setTop (entryFrame m #[(.int p1), (.int p2), (.int p3)] maxLocals)) t := fun t k => J3 t (by subst hla; exact k)
  have bl := own_last fi p2 la bf hla
  have J5 : ∀ t, Steps p.tables e below (s₁.setTop (mkF m 36 #[.val (.int p1), .val (.int p2), .val (.int p3), .val (.int fi), .val (.int la), .val (.int (fi + ((p3 &&& (2147483647 : Int32)) % ((la - fi) + (1 : Int32))))), .unset, .unset, .unset, .unset, .unset, .unset, .unset, .unset, .unset] [])) t → Steps p.tables e below (s₁.setTop (entryFrame m #[(.int p1), (.int p2), (.int p3)] maxLocals)) t := fun t k => J4 t (by
      show Steps p.tables e below (s₁.setTop (mkF m 21 #[.val (.int p1), .val (.int p2), .val (.int p3), .val (.int fi), .val (.int la), .unset, .unset, .unset, .unset, .unset, .unset, .unset, .unset, .unset, .unset] [])) _
      refine XS.iloadN X0.here hx rfl (hb hby at_21) rfl ?_
      show Steps p.tables e below (s₁.setTop (mkF m 22 #[.val (.int p1), .val (.int p2), .val (.int p3), .val (.int fi), .val (.int la), .unset, .unset, .unset, .unset, .unset, .unset, .unset, .unset, .unset, .unset] [(.int fi)])) _
      refine XS.iloadN X0.here hx rfl (hb hby at_22) rfl ?_
      show Steps p.tables e below (s₁.setTop (mkF m 23 #[.val (.int p1), .val (.int p2), .val (.int p3), .val (.int fi), .val (.int la), .unset, .unset, .unset, .unset, .unset, .unset, .unset, .unset, .unset, .unset] [(.int p3), (.int fi)])) _
      refine X0.ldcInt hx hown (mvT hZ (hw _ (List.mem_of_getElem? (i := 0) rfl))) (g := (mkF m 23 #[.val (.int p1), .val (.int p2), .val (.int p3), .val (.int fi), .val (.int la), .unset, .unset, .unset, .unset, .unset, .unset, .unset, .unset, .unset, .unset] [(.int p3), (.int fi)])) rfl (hb hby at_23) _ ?_
      show Steps p.tables e below (s₁.setTop (mkF m 25 #[.val (.int p1), .val (.int p2), .val (.int p3), .val (.int fi), .val (.int la), .unset, .unset, .unset, .unset, .unset, .unset, .unset, .unset, .unset, .unset] [(.int (2147483647 : Int32)), (.int p3), (.int fi)])) _
      refine XS.iand X0.here hx rfl (hb hby at_25) rfl ?_
      show Steps p.tables e below (s₁.setTop (mkF m 26 #[.val (.int p1), .val (.int p2), .val (.int p3), .val (.int fi), .val (.int la), .unset, .unset, .unset, .unset, .unset, .unset, .unset, .unset, .unset, .unset] [(.int (p3 &&& (2147483647 : Int32))), (.int fi)])) _
      refine XS.iload X0.here hx rfl (hb hby at_26) rfl ?_
      show Steps p.tables e below (s₁.setTop (mkF m 28 #[.val (.int p1), .val (.int p2), .val (.int p3), .val (.int fi), .val (.int la), .unset, .unset, .unset, .unset, .unset, .unset, .unset, .unset, .unset, .unset] [(.int la), (.int (p3 &&& (2147483647 : Int32))), (.int fi)])) _
      refine XS.iloadN X0.here hx rfl (hb hby at_28) rfl ?_
      show Steps p.tables e below (s₁.setTop (mkF m 29 #[.val (.int p1), .val (.int p2), .val (.int p3), .val (.int fi), .val (.int la), .unset, .unset, .unset, .unset, .unset, .unset, .unset, .unset, .unset, .unset] [(.int fi), (.int la), (.int (p3 &&& (2147483647 : Int32))), (.int fi)])) _
      refine XS.isub X0.here hx rfl (hb hby at_29) rfl ?_
      show Steps p.tables e below (s₁.setTop (mkF m 30 #[.val (.int p1), .val (.int p2), .val (.int p3), .val (.int fi), .val (.int la), .unset, .unset, .unset, .unset, .unset, .unset, .unset, .unset, .unset, .unset] [(.int (la - fi)), (.int (p3 &&& (2147483647 : Int32))), (.int fi)])) _
      refine XS.iconst X0.here hx rfl (hb hby at_30) ?_
      show Steps p.tables e below (s₁.setTop (mkF m 31 #[.val (.int p1), .val (.int p2), .val (.int p3), .val (.int fi), .val (.int la), .unset, .unset, .unset, .unset, .unset, .unset, .unset, .unset, .unset, .unset] [(.int (1 : Int32)), (.int (la - fi)), (.int (p3 &&& (2147483647 : Int32))), (.int fi)])) _
      refine XS.iadd X0.here hx rfl (hb hby at_31) rfl ?_
      show Steps p.tables e below (s₁.setTop (mkF m 32 #[.val (.int p1), .val (.int p2), .val (.int p3), .val (.int fi), .val (.int la), .unset, .unset, .unset, .unset, .unset, .unset, .unset, .unset, .unset, .unset] [(.int ((la - fi) + (1 : Int32))), (.int (p3 &&& (2147483647 : Int32))), (.int fi)])) _
      refine iremM X0 hx rfl (hb hby at_32) rfl (own_nzd fi la bf bl) ?_
      show Steps p.tables e below (s₁.setTop (mkF m 33 #[.val (.int p1), .val (.int p2), .val (.int p3), .val (.int fi), .val (.int la), .unset, .unset, .unset, .unset, .unset, .unset, .unset, .unset, .unset, .unset] [(.int ((p3 &&& (2147483647 : Int32)) % ((la - fi) + (1 : Int32)))), (.int fi)])) _
      refine XS.iadd X0.here hx rfl (hb hby at_33) rfl ?_
      show Steps p.tables e below (s₁.setTop (mkF m 34 #[.val (.int p1), .val (.int p2), .val (.int p3), .val (.int fi), .val (.int la), .unset, .unset, .unset, .unset, .unset, .unset, .unset, .unset, .unset, .unset] [(.int (fi + ((p3 &&& (2147483647 : Int32)) % ((la - fi) + (1 : Int32)))))])) _
      refine XS.istore X0.here hx rfl (hb hby at_34) rfl (l' := #[.val (.int p1), .val (.int p2), .val (.int p3), .val (.int fi), .val (.int la), .val (.int (fi + ((p3 &&& (2147483647 : Int32)) % ((la - fi) + (1 : Int32))))), .unset, .unset, .unset, .unset, .unset, .unset, .unset, .unset, .unset]) rfl ?_
      exact k)
  obtain ⟨kk, hkk⟩ : ∃ z : Int32, z = (fi + ((p3 &&& (2147483647 : Int32)) % ((la - fi) + (1 : Int32)))) := ⟨_, rfl⟩
  have J6 : ∀ t, Steps p.tables e below (s₁.setTop (mkF m 36 #[.val (.int p1), .val (.int p2), .val (.int p3), .val (.int fi), .val (.int la), .val (.int kk), .unset, .unset, .unset, .unset, .unset, .unset, .unset, .unset, .unset] [])) t → Steps p.tables e below (s₁.setTop (entryFrame m #[(.int p1), (.int p2), (.int p3)] maxLocals)) t := fun t k => J5 t (by subst hkk; exact k)
  have bk := own_k fi la p3 kk bf bl hkk
  obtain ⟨sp, hsp⟩ : ∃ z : Int32, z = (if kk < la then (1 : Int32) else (0 : Int32)) := ⟨_, rfl⟩
  have ps7 : ∀ t, Steps p.tables e below (s₁.setTop (mkF m 48 #[.val (.int p1), .val (.int p2), .val (.int p3), .val (.int fi), .val (.int la), .val (.int kk), .unset, .unset, .unset, .unset, .unset, .unset, .unset, .unset, .unset] [(.int sp)])) t → Steps p.tables e below (s₁.setTop (mkF m 36 #[.val (.int p1), .val (.int p2), .val (.int p3), .val (.int fi), .val (.int la), .val (.int kk), .unset, .unset, .unset, .unset, .unset, .unset, .unset, .unset, .unset] [])) t := by
    intro t k
    show Steps p.tables e below (s₁.setTop (mkF m 36 #[.val (.int p1), .val (.int p2), .val (.int p3), .val (.int fi), .val (.int la), .val (.int kk), .unset, .unset, .unset, .unset, .unset, .unset, .unset, .unset, .unset] [])) _
    refine XS.iload X0.here hx rfl (hb hby at_36) rfl ?_
    show Steps p.tables e below (s₁.setTop (mkF m 38 #[.val (.int p1), .val (.int p2), .val (.int p3), .val (.int fi), .val (.int la), .val (.int kk), .unset, .unset, .unset, .unset, .unset, .unset, .unset, .unset, .unset] [(.int kk)])) _
    refine XS.iload X0.here hx rfl (hb hby at_38) rfl ?_
    by_cases hm40_0 : kk < la
    ·
      show Steps p.tables e below (s₁.setTop (mkF m 40 #[.val (.int p1), .val (.int p2), .val (.int p3), .val (.int fi), .val (.int la), .val (.int kk), .unset, .unset, .unset, .unset, .unset, .unset, .unset, .unset, .unset] [(.int la), (.int kk)])) _
      refine XS.icmpNo X0.here hx rfl (hb hby at_40) rfl (tlt hm40_0).2.1 ?_
      show Steps p.tables e below (s₁.setTop (mkF m 43 #[.val (.int p1), .val (.int p2), .val (.int p3), .val (.int fi), .val (.int la), .val (.int kk), .unset, .unset, .unset, .unset, .unset, .unset, .unset, .unset, .unset] [])) _
      refine XS.iconst X0.here hx rfl (hb hby at_43) ?_
      show Steps p.tables e below (s₁.setTop (mkF m 44 #[.val (.int p1), .val (.int p2), .val (.int p3), .val (.int fi), .val (.int la), .val (.int kk), .unset, .unset, .unset, .unset, .unset, .unset, .unset, .unset, .unset] [(.int (1 : Int32))])) _
      refine XS.goto X0.here hx rfl (pc0 := 44) (pc' := 48) rfl (hb hby at_44) (by decide) (by decide) ?_
      have qsp : sp = (1 : Int32) := by rw [hsp]; simp only [hm40_0, if_true, if_false, reduceIte]
      rw [qsp] at k
      exact k
    ·
      show Steps p.tables e below (s₁.setTop (mkF m 40 #[.val (.int p1), .val (.int p2), .val (.int p3), .val (.int fi), .val (.int la), .val (.int kk), .unset, .unset, .unset, .unset, .unset, .unset, .unset, .unset, .unset] [(.int la), (.int kk)])) _
      refine XS.icmpYes X0.here hx rfl (pc0 := 40) (pc' := 47) rfl (hb hby at_40) rfl (flt hm40_0).2.1 (by decide) (by decide) ?_
      show Steps p.tables e below (s₁.setTop (mkF m 47 #[.val (.int p1), .val (.int p2), .val (.int p3), .val (.int fi), .val (.int la), .val (.int kk), .unset, .unset, .unset, .unset, .unset, .unset, .unset, .unset, .unset] [])) _
      refine XS.iconst X0.here hx rfl (hb hby at_47) ?_
      have qsp : sp = (0 : Int32) := by rw [hsp]; simp only [hm40_0, if_true, if_false, reduceIte]
      rw [qsp] at k
      exact k
  have J8 : ∀ t, Steps p.tables e below (s₁.setTop (mkF m 48 #[.val (.int p1), .val (.int p2), .val (.int p3), .val (.int fi), .val (.int la), .val (.int kk), .unset, .unset, .unset, .unset, .unset, .unset, .unset, .unset, .unset] [(.int sp)])) t → Steps p.tables e below (s₁.setTop (entryFrame m #[(.int p1), (.int p2), (.int p3)] maxLocals)) t := fun t k => J6 t (ps7 t k)
  have J9 : ∀ t, Steps p.tables e below (s₁.setTop (mkF m 50 #[.val (.int p1), .val (.int p2), .val (.int p3), .val (.int fi), .val (.int la), .val (.int kk), .val (.int sp), .unset, .unset, .unset, .unset, .unset, .unset, .unset, .unset] [])) t → Steps p.tables e below (s₁.setTop (entryFrame m #[(.int p1), (.int p2), (.int p3)] maxLocals)) t := fun t k => J8 t (by
      show Steps p.tables e below (s₁.setTop (mkF m 48 #[.val (.int p1), .val (.int p2), .val (.int p3), .val (.int fi), .val (.int la), .val (.int kk), .unset, .unset, .unset, .unset, .unset, .unset, .unset, .unset, .unset] [(.int sp)])) _
      refine XS.istore X0.here hx rfl (hb hby at_48) rfl (l' := #[.val (.int p1), .val (.int p2), .val (.int p3), .val (.int fi), .val (.int la), .val (.int kk), .val (.int sp), .unset, .unset, .unset, .unset, .unset, .unset, .unset, .unset]) rfl ?_
      exact k)
  obtain ⟨T10, h10, X10, e10, E10, A10, D10, -, st10⟩ := newO X0 hx hZ hown (hw _ (List.mem_of_getElem? (i := 1) rfl)) (hw _ (List.mem_of_getElem? (i := 2) rfl)) (hw _ (List.mem_of_getElem? (i := 3) rfl)) e0 (g := (mkF m 50 #[.val (.int p1), .val (.int p2), .val (.int p3), .val (.int fi), .val (.int la), .val (.int kk), .val (.int sp), .unset, .unset, .unset, .unset, .unset, .unset, .unset, .unset] [])) rfl (hb hby at_50) (by decide) (by decide)
  obtain ⟨b10, g10⟩ : ∃ z, z = h0.size := ⟨_, rfl⟩
  rw [← g10] at A10 D10 st10
  have J11 : ∀ t, Steps p.tables e below (T10.setTop (mkF m 53 #[.val (.int p1), .val (.int p2), .val (.int p3), .val (.int fi), .val (.int la), .val (.int kk), .val (.int sp), .unset, .unset, .unset, .unset, .unset, .unset, .unset, .unset] [(.ref b10)])) t → Steps p.tables e below (s₁.setTop (entryFrame m #[(.int p1), (.int p2), (.int p3)] maxLocals)) t := fun t k => J9 t (st10 t k)
  have ge12 : n0 ≤ b10 := Nat.le_trans Z0 (Nat.le_of_eq g10.symm)
  have Z13 : n0 ≤ h10.size := Nat.le_trans Z0 E10.1
  have F10_first : Fld Z h10 b10 "com/example/capwright/capwright/ipr/PeakHours" "first" "I" (.int (0 : Int32)) := D10 (Or.inr (hw _ (List.mem_of_getElem? (i := 19) rfl))) (ty := .int) (by decide)
  have F10_last : Fld Z h10 b10 "com/example/capwright/capwright/ipr/PeakHours" "last" "I" (.int (0 : Int32)) := D10 (Or.inr (hw _ (List.mem_of_getElem? (i := 21) rfl))) (ty := .int) (by decide)
  have J14 : ∀ t, Steps p.tables e below (T10.setTop (mkF m 57 #[.val (.int p1), .val (.int p2), .val (.int p3), .val (.int fi), .val (.int la), .val (.int kk), .val (.int sp), .unset, .unset, .unset, .unset, .unset, .unset, .unset, .unset] [(.int la), (.int fi), (.ref b10), (.ref b10)])) t → Steps p.tables e below (s₁.setTop (entryFrame m #[(.int p1), (.int p2), (.int p3)] maxLocals)) t := fun t k => J11 t (by
      show Steps p.tables e below (T10.setTop (mkF m 53 #[.val (.int p1), .val (.int p2), .val (.int p3), .val (.int fi), .val (.int la), .val (.int kk), .val (.int sp), .unset, .unset, .unset, .unset, .unset, .unset, .unset, .unset] [(.ref b10)])) _
      refine XS.dup X10.here hx rfl (hb hby at_53) rfl rfl ?_
      show Steps p.tables e below (T10.setTop (mkF m 54 #[.val (.int p1), .val (.int p2), .val (.int p3), .val (.int fi), .val (.int la), .val (.int kk), .val (.int sp), .unset, .unset, .unset, .unset, .unset, .unset, .unset, .unset] [(.ref b10), (.ref b10)])) _
      refine XS.iloadN X10.here hx rfl (hb hby at_54) rfl ?_
      show Steps p.tables e below (T10.setTop (mkF m 55 #[.val (.int p1), .val (.int p2), .val (.int p3), .val (.int fi), .val (.int la), .val (.int kk), .val (.int sp), .unset, .unset, .unset, .unset, .unset, .unset, .unset, .unset] [(.int fi), (.ref b10), (.ref b10)])) _
      refine XS.iload X10.here hx rfl (hb hby at_55) rfl ?_
      exact k)
  obtain ⟨_, _, ⟨T15, L15, k15, n15⟩, -, X15, ⟨Lc15, hQ15, l15, y15, z15⟩, st15⟩ := X10.specialBack hx (y := (⟨"com/example/capwright/capwright/ipr/PeakHours", "<init>", "(II)V"⟩ : MethodName)) rfl hown (mvT hZ (hw _ (List.mem_of_getElem? (i := 4) rfl))) (mvT hZ (hw _ (List.mem_of_getElem? (i := 5) rfl))) (mvT hZ (hw _ (List.mem_of_getElem? (i := 6) rfl))) (by decide) (backOf (W := 1) (rm1 l Z a0 hw [] b10 fi la (.int (0 : Int32)) (.int (0 : Int32)) h10 n0 Z13 A10 F10_first F10_last ge12 (own_ge0 bf.1) (own_nlt bl.1) (own_le23 bl.2)) hZ (hw _ (List.mem_of_getElem? (i := 6) rfl)) (hw _ (List.mem_of_getElem? (i := 3) rfl)) (by decide) (by decide)) (g := (mkF m 57 #[.val (.int p1), .val (.int p2), .val (.int p3), .val (.int fi), .val (.int la), .val (.int kk), .val (.int sp), .unset, .unset, .unset, .unset, .unset, .unset, .unset, .unset] [(.int la), (.int fi), (.ref b10), (.ref b10)])) rfl (by rw [hml]; rfl) (Steps.refl _) (a := b10) (argsL := [(.int fi), (.int la)]) (rest := [(.ref b10)]) (lenOf pd_2 rfl) rfl (by show 2 * 0 + _ ≤ _; exact Nat.le_of_eq rfl) (hb hby at_57) (fun _ _ => ⟨rfl, e10, (by decide : 1 + 0 ≤ _), (by decide : 2 + 0 ≤ _)⟩)
  dsimp only [Pt.U, Pt.locs, Pt.cells, Pt.slots] at X15 l15 y15 z15 st15 hQ15
  subst l15 y15 z15
  obtain ⟨rfl, Nq15, K15, p15_1, p15_2, p15_3⟩ := hQ15
  have N16 := Fr.app N0 Nq15
  have J17 : ∀ t, Steps p.tables e below (T15.setTop (mkF m 60 #[.val (.int p1), .val (.int p2), .val (.int p3), .val (.int fi), .val (.int la), .val (.int kk), .val (.int sp), .unset, .unset, .unset, .unset, .unset, .unset, .unset, .unset] [(.ref b10)])) t → Steps p.tables e below (s₁.setTop (entryFrame m #[(.int p1), (.int p2), (.int p3)] maxLocals)) t := fun t k => J14 t (st15.trans k)
  have Z18 : n0 ≤ T15.heap.size := Nat.le_trans Z13 K15.1
  have J19 : ∀ t, Steps p.tables e below (T15.setTop (mkF m 62 #[.val (.int p1), .val (.int p2), .val (.int p3), .val (.int fi), .val (.int la), .val (.int kk), .val (.int sp), .val (.ref b10), .unset, .unset, .unset, .unset, .unset, .unset, .unset] [])) t → Steps p.tables e below (s₁.setTop (entryFrame m #[(.int p1), (.int p2), (.int p3)] maxLocals)) t := fun t k => J17 t (by
      show Steps p.tables e below (T15.setTop (mkF m 60 #[.val (.int p1), .val (.int p2), .val (.int p3), .val (.int fi), .val (.int la), .val (.int kk), .val (.int sp), .unset, .unset, .unset, .unset, .unset, .unset, .unset, .unset] [(.ref b10)])) _
      refine XS.astore X15.here hx rfl (hb hby at_60) rfl rfl (l' := #[.val (.int p1), .val (.int p2), .val (.int p3), .val (.int fi), .val (.int la), .val (.int kk), .val (.int sp), .val (.ref b10), .unset, .unset, .unset, .unset, .unset, .unset, .unset]) rfl ?_
      exact k)
  obtain ⟨T20, h20, X20, e20, E20, A20, D20, -, st20⟩ := newO X15 hx hZ hown (hw _ (List.mem_of_getElem? (i := 1) rfl)) (hw _ (List.mem_of_getElem? (i := 2) rfl)) (hw _ (List.mem_of_getElem? (i := 3) rfl)) rfl (g := (mkF m 62 #[.val (.int p1), .val (.int p2), .val (.int p3), .val (.int fi), .val (.int la), .val (.int kk), .val (.int sp), .val (.ref b10), .unset, .unset, .unset, .unset, .unset, .unset, .unset] [])) rfl (hb hby at_62) (by decide) (by decide)
  obtain ⟨b20, g20⟩ : ∃ z, z = T15.heap.size := ⟨_, rfl⟩
  rw [← g20] at A20 D20 st20
  have J21 : ∀ t, Steps p.tables e below (T20.setTop (mkF m 65 #[.val (.int p1), .val (.int p2), .val (.int p3), .val (.int fi), .val (.int la), .val (.int kk), .val (.int sp), .val (.ref b10), .unset, .unset, .unset, .unset, .unset, .unset, .unset] [(.ref b20)])) t → Steps p.tables e below (s₁.setTop (entryFrame m #[(.int p1), (.int p2), (.int p3)] maxLocals)) t := fun t k => J19 t (st20 t k)
  have ne22 : b10 ≠ b20 := Nat.ne_of_lt (Nat.lt_of_lt_of_le p15_1.lt (Nat.le_of_eq g20.symm))
  have ge23 : n0 ≤ b20 := Nat.le_trans Z18 (Nat.le_of_eq g20.symm)
  have Z24 : n0 ≤ h20.size := Nat.le_trans Z18 E20.1
  have F20_first : Fld Z h20 b20 "com/example/capwright/capwright/ipr/PeakHours" "first" "I" (.int (0 : Int32)) := D20 (Or.inr (hw _ (List.mem_of_getElem? (i := 19) rfl))) (ty := .int) (by decide)
  have F20_last : Fld Z h20 b20 "com/example/capwright/capwright/ipr/PeakHours" "last" "I" (.int (0 : Int32)) := D20 (Or.inr (hw _ (List.mem_of_getElem? (i := 21) rfl))) (ty := .int) (by decide)
  have J25 : ∀ t, Steps p.tables e below (T20.setTop (mkF m 68 #[.val (.int p1), .val (.int p2), .val (.int p3), .val (.int fi), .val (.int la), .val (.int kk), .val (.int sp), .val (.ref b10), .unset, .unset, .unset, .unset, .unset, .unset, .unset] [(.int fi), (.int fi), (.ref b20), (.ref b20)])) t → Steps p.tables e below (s₁.setTop (entryFrame m #[(.int p1), (.int p2), (.int p3)] maxLocals)) t := fun t k => J21 t (by
      show Steps p.tables e below (T20.setTop (mkF m 65 #[.val (.int p1), .val (.int p2), .val (.int p3), .val (.int fi), .val (.int la), .val (.int kk), .val (.int sp), .val (.ref b10), .unset, .unset, .unset, .unset, .unset, .unset, .unset] [(.ref b20)])) _
      refine XS.dup X20.here hx rfl (hb hby at_65) rfl rfl ?_
      show Steps p.tables e below (T20.setTop (mkF m 66 #[.val (.int p1), .val (.int p2), .val (.int p3), .val (.int fi), .val (.int la), .val (.int kk), .val (.int sp), .val (.ref b10), .unset, .unset, .unset, .unset, .unset, .unset, .unset] [(.ref b20), (.ref b20)])) _
      refine XS.iloadN X20.here hx rfl (hb hby at_66) rfl ?_
      show Steps p.tables e below (T20.setTop (mkF m 67 #[.val (.int p1), .val (.int p2), .val (.int p3), .val (.int fi), .val (.int la), .val (.int kk), .val (.int sp), .val (.ref b10), .unset, .unset, .unset, .unset, .unset, .unset, .unset] [(.int fi), (.ref b20), (.ref b20)])) _
      refine XS.iloadN X20.here hx rfl (hb hby at_67) rfl ?_
      exact k)
  obtain ⟨_, _, ⟨T26, L26, k26, n26⟩, -, X26, ⟨Lc26, hQ26, l26, y26, z26⟩, st26⟩ := X20.specialBack hx (y := (⟨"com/example/capwright/capwright/ipr/PeakHours", "<init>", "(II)V"⟩ : MethodName)) rfl hown (mvT hZ (hw _ (List.mem_of_getElem? (i := 4) rfl))) (mvT hZ (hw _ (List.mem_of_getElem? (i := 5) rfl))) (mvT hZ (hw _ (List.mem_of_getElem? (i := 6) rfl))) (by decide) (backOf (W := 1) (rm1 l Z a0 hw [] b20 fi fi (.int (0 : Int32)) (.int (0 : Int32)) h20 n0 Z24 A20 F20_first F20_last ge23 (own_ge0 bf.1) (own_nlt (Int.le_refl _)) (own_le23 bf.2)) hZ (hw _ (List.mem_of_getElem? (i := 6) rfl)) (hw _ (List.mem_of_getElem? (i := 3) rfl)) (by decide) (by decide)) (g := (mkF m 68 #[.val (.int p1), .val (.int p2), .val (.int p3), .val (.int fi), .val (.int la), .val (.int kk), .val (.int sp), .val (.ref b10), .unset, .unset, .unset, .unset, .unset, .unset, .unset] [(.int fi), (.int fi), (.ref b20), (.ref b20)])) rfl (by rw [hml]; rfl) (Steps.refl _) (a := b20) (argsL := [(.int fi), (.int fi)]) (rest := [(.ref b20)]) (lenOf pd_2 rfl) rfl (by show 2 * 0 + _ ≤ _; exact Nat.le_of_eq rfl) (hb hby at_68) (fun _ _ => ⟨rfl, e20, (by decide : 2 + 0 ≤ _), (by decide : 4 + 0 ≤ _)⟩)
  dsimp only [Pt.U, Pt.locs, Pt.cells, Pt.slots] at X26 l26 y26 z26 st26 hQ26
  subst l26 y26 z26
  obtain ⟨rfl, Nq26, K26, p26_1, p26_2, p26_3⟩ := hQ26
  have N27 := Fr.app N16 Nq26
  have J28 : ∀ t, Steps p.tables e below (T26.setTop (mkF m 71 #[.val (.int p1), .val (.int p2), .val (.int p3), .val (.int fi), .val (.int la), .val (.int kk), .val (.int sp), .val (.ref b10), .unset, .unset, .unset, .unset, .unset, .unset, .unset] [(.ref b20)])) t → Steps p.tables e below (s₁.setTop (entryFrame m #[(.int p1), (.int p2), (.int p3)] maxLocals)) t := fun t k => J25 t (st26.trans k)
  have Z29 : n0 ≤ T26.heap.size := Nat.le_trans Z24 K26.1
  have J30 : ∀ t, Steps p.tables e below (T26.setTop (mkF m 73 #[.val (.int p1), .val (.int p2), .val (.int p3), .val (.int fi), .val (.int la), .val (.int kk), .val (.int sp), .val (.ref b10), .val (.ref b20), .unset, .unset, .unset, .unset, .unset, .unset] [])) t → Steps p.tables e below (s₁.setTop (entryFrame m #[(.int p1), (.int p2), (.int p3)] maxLocals)) t := fun t k => J28 t (by
      show Steps p.tables e below (T26.setTop (mkF m 71 #[.val (.int p1), .val (.int p2), .val (.int p3), .val (.int fi), .val (.int la), .val (.int kk), .val (.int sp), .val (.ref b10), .unset, .unset, .unset, .unset, .unset, .unset, .unset] [(.ref b20)])) _
      refine XS.astore X26.here hx rfl (hb hby at_71) rfl rfl (l' := #[.val (.int p1), .val (.int p2), .val (.int p3), .val (.int fi), .val (.int la), .val (.int kk), .val (.int sp), .val (.ref b10), .val (.ref b20), .unset, .unset, .unset, .unset, .unset, .unset]) rfl ?_
      exact k)
  have f32 := p15_1.ext E20
  have f33 := f32.keep K26
  obtain ⟨T31, h31, X31, e31, E31, A31, D31, -, st31⟩ := newO X26 hx hZ hown (hw _ (List.mem_of_getElem? (i := 1) rfl)) (hw _ (List.mem_of_getElem? (i := 2) rfl)) (hw _ (List.mem_of_getElem? (i := 3) rfl)) rfl (g := (mkF m 73 #[.val (.int p1), .val (.int p2), .val (.int p3), .val (.int fi), .val (.int la), .val (.int kk), .val (.int sp), .val (.ref b10), .val (.ref b20), .unset, .unset, .unset, .unset, .unset, .unset] [])) rfl (hb hby at_73) (by decide) (by decide)
  obtain ⟨b31, g31⟩ : ∃ z, z = T26.heap.size := ⟨_, rfl⟩
  rw [← g31] at A31 D31 st31
  have J34 : ∀ t, Steps p.tables e below (T31.setTop (mkF m 76 #[.val (.int p1), .val (.int p2), .val (.int p3), .val (.int fi), .val (.int la), .val (.int kk), .val (.int sp), .val (.ref b10), .val (.ref b20), .unset, .unset, .unset, .unset, .unset, .unset] [(.ref b31)])) t → Steps p.tables e below (s₁.setTop (entryFrame m #[(.int p1), (.int p2), (.int p3)] maxLocals)) t := fun t k => J30 t (st31 t k)
  have ne35 : b10 ≠ b31 := Nat.ne_of_lt (Nat.lt_of_lt_of_le f33.lt (Nat.le_of_eq g31.symm))
  have ne36 : b20 ≠ b31 := Nat.ne_of_lt (Nat.lt_of_lt_of_le p26_1.lt (Nat.le_of_eq g31.symm))
  have ge37 : n0 ≤ b31 := Nat.le_trans Z29 (Nat.le_of_eq g31.symm)
  have Z38 : n0 ≤ h31.size := Nat.le_trans Z29 E31.1
  have F31_first : Fld Z h31 b31 "com/example/capwright/capwright/ipr/PeakHours" "first" "I" (.int (0 : Int32)) := D31 (Or.inr (hw _ (List.mem_of_getElem? (i := 19) rfl))) (ty := .int) (by decide)
  have F31_last : Fld Z h31 b31 "com/example/capwright/capwright/ipr/PeakHours" "last" "I" (.int (0 : Int32)) := D31 (Or.inr (hw _ (List.mem_of_getElem? (i := 21) rfl))) (ty := .int) (by decide)
  have J39 : ∀ t, Steps p.tables e below (T31.setTop (mkF m 80 #[.val (.int p1), .val (.int p2), .val (.int p3), .val (.int fi), .val (.int la), .val (.int kk), .val (.int sp), .val (.ref b10), .val (.ref b20), .unset, .unset, .unset, .unset, .unset, .unset] [(.int kk), (.int fi), (.ref b31), (.ref b31)])) t → Steps p.tables e below (s₁.setTop (entryFrame m #[(.int p1), (.int p2), (.int p3)] maxLocals)) t := fun t k => J34 t (by
      show Steps p.tables e below (T31.setTop (mkF m 76 #[.val (.int p1), .val (.int p2), .val (.int p3), .val (.int fi), .val (.int la), .val (.int kk), .val (.int sp), .val (.ref b10), .val (.ref b20), .unset, .unset, .unset, .unset, .unset, .unset] [(.ref b31)])) _
      refine XS.dup X31.here hx rfl (hb hby at_76) rfl rfl ?_
      show Steps p.tables e below (T31.setTop (mkF m 77 #[.val (.int p1), .val (.int p2), .val (.int p3), .val (.int fi), .val (.int la), .val (.int kk), .val (.int sp), .val (.ref b10), .val (.ref b20), .unset, .unset, .unset, .unset, .unset, .unset] [(.ref b31), (.ref b31)])) _
      refine XS.iloadN X31.here hx rfl (hb hby at_77) rfl ?_
      show Steps p.tables e below (T31.setTop (mkF m 78 #[.val (.int p1), .val (.int p2), .val (.int p3), .val (.int fi), .val (.int la), .val (.int kk), .val (.int sp), .val (.ref b10), .val (.ref b20), .unset, .unset, .unset, .unset, .unset, .unset] [(.int fi), (.ref b31), (.ref b31)])) _
      refine XS.iload X31.here hx rfl (hb hby at_78) rfl ?_
      exact k)
  obtain ⟨_, _, ⟨T40, L40, k40, n40⟩, -, X40, ⟨Lc40, hQ40, l40, y40, z40⟩, st40⟩ := X31.specialBack hx (y := (⟨"com/example/capwright/capwright/ipr/PeakHours", "<init>", "(II)V"⟩ : MethodName)) rfl hown (mvT hZ (hw _ (List.mem_of_getElem? (i := 4) rfl))) (mvT hZ (hw _ (List.mem_of_getElem? (i := 5) rfl))) (mvT hZ (hw _ (List.mem_of_getElem? (i := 6) rfl))) (by decide) (backOf (W := 1) (rm1 l Z a0 hw [] b31 fi kk (.int (0 : Int32)) (.int (0 : Int32)) h31 n0 Z38 A31 F31_first F31_last ge37 (own_ge0 bf.1) (own_nlt bk.1) (own_le23 (own_lt_of_le bk.2 bl.2))) hZ (hw _ (List.mem_of_getElem? (i := 6) rfl)) (hw _ (List.mem_of_getElem? (i := 3) rfl)) (by decide) (by decide)) (g := (mkF m 80 #[.val (.int p1), .val (.int p2), .val (.int p3), .val (.int fi), .val (.int la), .val (.int kk), .val (.int sp), .val (.ref b10), .val (.ref b20), .unset, .unset, .unset, .unset, .unset, .unset] [(.int kk), (.int fi), (.ref b31), (.ref b31)])) rfl (by rw [hml]; rfl) (Steps.refl _) (a := b31) (argsL := [(.int fi), (.int kk)]) (rest := [(.ref b31)]) (lenOf pd_2 rfl) rfl (by show 2 * 0 + _ ≤ _; exact Nat.le_of_eq rfl) (hb hby at_80) (fun _ _ => ⟨rfl, e31, (by decide : 3 + 0 ≤ _), (by decide : 6 + 0 ≤ _)⟩)
  dsimp only [Pt.U, Pt.locs, Pt.cells, Pt.slots] at X40 l40 y40 z40 st40 hQ40
  subst l40 y40 z40
  obtain ⟨rfl, Nq40, K40, p40_1, p40_2, p40_3⟩ := hQ40
  have N41 := Fr.app N27 Nq40
  have J42 : ∀ t, Steps p.tables e below (T40.setTop (mkF m 83 #[.val (.int p1), .val (.int p2), .val (.int p3), .val (.int fi), .val (.int la), .val (.int kk), .val (.int sp), .val (.ref b10), .val (.ref b20), .unset, .unset, .unset, .unset, .unset, .unset] [(.ref b31)])) t → Steps p.tables e below (s₁.setTop (entryFrame m #[(.int p1), (.int p2), (.int p3)] maxLocals)) t := fun t k => J39 t (st40.trans k)
  have Z43 : n0 ≤ T40.heap.size := Nat.le_trans Z38 K40.1
  have J44 : ∀ t, Steps p.tables e below (T40.setTop (mkF m 85 #[.val (.int p1), .val (.int p2), .val (.int p3), .val (.int fi), .val (.int la), .val (.int kk), .val (.int sp), .val (.ref b10), .val (.ref b20), .val (.ref b31), .unset, .unset, .unset, .unset, .unset] [])) t → Steps p.tables e below (s₁.setTop (entryFrame m #[(.int p1), (.int p2), (.int p3)] maxLocals)) t := fun t k => J42 t (by
      show Steps p.tables e below (T40.setTop (mkF m 83 #[.val (.int p1), .val (.int p2), .val (.int p3), .val (.int fi), .val (.int la), .val (.int kk), .val (.int sp), .val (.ref b10), .val (.ref b20), .unset, .unset, .unset, .unset, .unset, .unset] [(.ref b31)])) _
      refine XS.astore X40.here hx rfl (hb hby at_83) rfl rfl (l' := #[.val (.int p1), .val (.int p2), .val (.int p3), .val (.int fi), .val (.int la), .val (.int kk), .val (.int sp), .val (.ref b10), .val (.ref b20), .val (.ref b31), .unset, .unset, .unset, .unset, .unset]) rfl ?_
      exact k)
  have f46 := f33.ext E31
  have f47 := f46.keep K40
  have f48 := p26_1.ext E31
  have f49 := f48.keep K40
  obtain ⟨T45, h45, X45, e45, E45, A45, D45, -, st45⟩ := newO X40 hx hZ hown (hw _ (List.mem_of_getElem? (i := 1) rfl)) (hw _ (List.mem_of_getElem? (i := 2) rfl)) (hw _ (List.mem_of_getElem? (i := 3) rfl)) rfl (g := (mkF m 85 #[.val (.int p1), .val (.int p2), .val (.int p3), .val (.int fi), .val (.int la), .val (.int kk), .val (.int sp), .val (.ref b10), .val (.ref b20), .val (.ref b31), .unset, .unset, .unset, .unset, .unset] [])) rfl (hb hby at_85) (by decide) (by decide)
  obtain ⟨b45, g45⟩ : ∃ z, z = T40.heap.size := ⟨_, rfl⟩
  rw [← g45] at A45 D45 st45
  have J50 : ∀ t, Steps p.tables e below (T45.setTop (mkF m 88 #[.val (.int p1), .val (.int p2), .val (.int p3), .val (.int fi), .val (.int la), .val (.int kk), .val (.int sp), .val (.ref b10), .val (.ref b20), .val (.ref b31), .unset, .unset, .unset, .unset, .unset] [(.ref b45)])) t → Steps p.tables e below (s₁.setTop (entryFrame m #[(.int p1), (.int p2), (.int p3)] maxLocals)) t := fun t k => J44 t (st45 t k)
  have ne51 : b10 ≠ b45 := Nat.ne_of_lt (Nat.lt_of_lt_of_le f47.lt (Nat.le_of_eq g45.symm))
  have ne52 : b20 ≠ b45 := Nat.ne_of_lt (Nat.lt_of_lt_of_le f49.lt (Nat.le_of_eq g45.symm))
  have ne53 : b31 ≠ b45 := Nat.ne_of_lt (Nat.lt_of_lt_of_le p40_1.lt (Nat.le_of_eq g45.symm))
  have ge54 : n0 ≤ b45 := Nat.le_trans Z43 (Nat.le_of_eq g45.symm)
  have Z55 : n0 ≤ h45.size := Nat.le_trans Z43 E45.1
  have F45_first : Fld Z h45 b45 "com/example/capwright/capwright/ipr/PeakHours" "first" "I" (.int (0 : Int32)) := D45 (Or.inr (hw _ (List.mem_of_getElem? (i := 19) rfl))) (ty := .int) (by decide)
  have F45_last : Fld Z h45 b45 "com/example/capwright/capwright/ipr/PeakHours" "last" "I" (.int (0 : Int32)) := D45 (Or.inr (hw _ (List.mem_of_getElem? (i := 21) rfl))) (ty := .int) (by decide)
  have J56 : ∀ t, Steps p.tables e below (T45.setTop (mkF m 89 #[.val (.int p1), .val (.int p2), .val (.int p3), .val (.int fi), .val (.int la), .val (.int kk), .val (.int sp), .val (.ref b10), .val (.ref b20), .val (.ref b31), .unset, .unset, .unset, .unset, .unset] [(.ref b45), (.ref b45)])) t → Steps p.tables e below (s₁.setTop (entryFrame m #[(.int p1), (.int p2), (.int p3)] maxLocals)) t := fun t k => J50 t (by
      show Steps p.tables e below (T45.setTop (mkF m 88 #[.val (.int p1), .val (.int p2), .val (.int p3), .val (.int fi), .val (.int la), .val (.int kk), .val (.int sp), .val (.ref b10), .val (.ref b20), .val (.ref b31), .unset, .unset, .unset, .unset, .unset] [(.ref b45)])) _
      refine XS.dup X45.here hx rfl (hb hby at_88) rfl rfl ?_
      exact k)
  obtain ⟨rf, hrf⟩ : ∃ z : Int32, z = (if sp = (0 : Int32) then la else (kk + (1 : Int32))) := ⟨_, rfl⟩
  have ps57 : ∀ t, Steps p.tables e below (T45.setTop (mkF m 103 #[.val (.int p1), .val (.int p2), .val (.int p3), .val (.int fi), .val (.int la), .val (.int kk), .val (.int sp), .val (.ref b10), .val (.ref b20), .val (.ref b31), .unset, .unset, .unset, .unset, .unset] [(.int rf), (.ref b45), (.ref b45)])) t → Steps p.tables e below (T45.setTop (mkF m 89 #[.val (.int p1), .val (.int p2), .val (.int p3), .val (.int fi), .val (.int la), .val (.int kk), .val (.int sp), .val (.ref b10), .val (.ref b20), .val (.ref b31), .unset, .unset, .unset, .unset, .unset] [(.ref b45), (.ref b45)])) t := by
    intro t k
    show Steps p.tables e below (T45.setTop (mkF m 89 #[.val (.int p1), .val (.int p2), .val (.int p3), .val (.int fi), .val (.int la), .val (.int kk), .val (.int sp), .val (.ref b10), .val (.ref b20), .val (.ref b31), .unset, .unset, .unset, .unset, .unset] [(.ref b45), (.ref b45)])) _
    refine XS.iload X45.here hx rfl (hb hby at_89) rfl ?_
    by_cases hm91_0 : sp = (0 : Int32)
    ·
      show Steps p.tables e below (T45.setTop (mkF m 91 #[.val (.int p1), .val (.int p2), .val (.int p3), .val (.int fi), .val (.int la), .val (.int kk), .val (.int sp), .val (.ref b10), .val (.ref b20), .val (.ref b31), .unset, .unset, .unset, .unset, .unset] [(.int sp), (.ref b45), (.ref b45)])) _
      refine XS.ifYes X45.here hx rfl (pc0 := 91) (pc' := 101) rfl (hb hby at_91) rfl ((if0 _ _).trans (teq hm91_0).1) (by decide) (by decide) ?_
      show Steps p.tables e below (T45.setTop (mkF m 101 #[.val (.int p1), .val (.int p2), .val (.int p3), .val (.int fi), .val (.int la), .val (.int kk), .val (.int sp), .val (.ref b10), .val (.ref b20), .val (.ref b31), .unset, .unset, .unset, .unset, .unset] [(.ref b45), (.ref b45)])) _
      refine XS.iload X45.here hx rfl (hb hby at_101) rfl ?_
      have qrf : rf = la := by rw [hrf]; simp only [hm91_0, if_true, if_false, reduceIte]
      rw [qrf] at k
      exact k
    ·
      show Steps p.tables e below (T45.setTop (mkF m 91 #[.val (.int p1), .val (.int p2), .val (.int p3), .val (.int fi), .val (.int la), .val (.int kk), .val (.int sp), .val (.ref b10), .val (.ref b20), .val (.ref b31), .unset, .unset, .unset, .unset, .unset] [(.int sp), (.ref b45), (.ref b45)])) _
      refine XS.ifNo X45.here hx rfl (hb hby at_91) rfl ((if0 _ _).trans (feq hm91_0).1) ?_
      show Steps p.tables e below (T45.setTop (mkF m 94 #[.val (.int p1), .val (.int p2), .val (.int p3), .val (.int fi), .val (.int la), .val (.int kk), .val (.int sp), .val (.ref b10), .val (.ref b20), .val (.ref b31), .unset, .unset, .unset, .unset, .unset] [(.ref b45), (.ref b45)])) _
      refine XS.iload X45.here hx rfl (hb hby at_94) rfl ?_
      show Steps p.tables e below (T45.setTop (mkF m 96 #[.val (.int p1), .val (.int p2), .val (.int p3), .val (.int fi), .val (.int la), .val (.int kk), .val (.int sp), .val (.ref b10), .val (.ref b20), .val (.ref b31), .unset, .unset, .unset, .unset, .unset] [(.int kk), (.ref b45), (.ref b45)])) _
      refine XS.iconst X45.here hx rfl (hb hby at_96) ?_
      show Steps p.tables e below (T45.setTop (mkF m 97 #[.val (.int p1), .val (.int p2), .val (.int p3), .val (.int fi), .val (.int la), .val (.int kk), .val (.int sp), .val (.ref b10), .val (.ref b20), .val (.ref b31), .unset, .unset, .unset, .unset, .unset] [(.int (1 : Int32)), (.int kk), (.ref b45), (.ref b45)])) _
      refine XS.iadd X45.here hx rfl (hb hby at_97) rfl ?_
      show Steps p.tables e below (T45.setTop (mkF m 98 #[.val (.int p1), .val (.int p2), .val (.int p3), .val (.int fi), .val (.int la), .val (.int kk), .val (.int sp), .val (.ref b10), .val (.ref b20), .val (.ref b31), .unset, .unset, .unset, .unset, .unset] [(.int (kk + (1 : Int32))), (.ref b45), (.ref b45)])) _
      refine XS.goto X45.here hx rfl (pc0 := 98) (pc' := 103) rfl (hb hby at_98) (by decide) (by decide) ?_
      have qrf : rf = (kk + (1 : Int32)) := by rw [hrf]; simp only [hm91_0, if_true, if_false, reduceIte]
      rw [qrf] at k
      exact k
  have J58 : ∀ t, Steps p.tables e below (T45.setTop (mkF m 103 #[.val (.int p1), .val (.int p2), .val (.int p3), .val (.int fi), .val (.int la), .val (.int kk), .val (.int sp), .val (.ref b10), .val (.ref b20), .val (.ref b31), .unset, .unset, .unset, .unset, .unset] [(.int rf), (.ref b45), (.ref b45)])) t → Steps p.tables e below (s₁.setTop (entryFrame m #[(.int p1), (.int p2), (.int p3)] maxLocals)) t := fun t k => J56 t (ps57 t k)
  have br := own_rf fi la kk sp rf bf bl bk hsp hrf
  have J59 : ∀ t, Steps p.tables e below (T45.setTop (mkF m 105 #[.val (.int p1), .val (.int p2), .val (.int p3), .val (.int fi), .val (.int la), .val (.int kk), .val (.int sp), .val (.ref b10), .val (.ref b20), .val (.ref b31), .unset, .unset, .unset, .unset, .unset] [(.int la), (.int rf), (.ref b45), (.ref b45)])) t → Steps p.tables e below (s₁.setTop (entryFrame m #[(.int p1), (.int p2), (.int p3)] maxLocals)) t := fun t k => J58 t (by
      show Steps p.tables e below (T45.setTop (mkF m 103 #[.val (.int p1), .val (.int p2), .val (.int p3), .val (.int fi), .val (.int la), .val (.int kk), .val (.int sp), .val (.ref b10), .val (.ref b20), .val (.ref b31), .unset, .unset, .unset, .unset, .unset] [(.int rf), (.ref b45), (.ref b45)])) _
      refine XS.iload X45.here hx rfl (hb hby at_103) rfl ?_
      exact k)
  obtain ⟨_, _, ⟨T60, L60, k60, n60⟩, -, X60, ⟨Lc60, hQ60, l60, y60, z60⟩, st60⟩ := X45.specialBack hx (y := (⟨"com/example/capwright/capwright/ipr/PeakHours", "<init>", "(II)V"⟩ : MethodName)) rfl hown (mvT hZ (hw _ (List.mem_of_getElem? (i := 4) rfl))) (mvT hZ (hw _ (List.mem_of_getElem? (i := 5) rfl))) (mvT hZ (hw _ (List.mem_of_getElem? (i := 6) rfl))) (by decide) (backOf (W := 1) (rm1 l Z a0 hw [] b45 rf la (.int (0 : Int32)) (.int (0 : Int32)) h45 n0 Z55 A45 F45_first F45_last ge54 br.1 br.2.1 (own_le23 bl.2)) hZ (hw _ (List.mem_of_getElem? (i := 6) rfl)) (hw _ (List.mem_of_getElem? (i := 3) rfl)) (by decide) (by decide)) (g := (mkF m 105 #[.val (.int p1), .val (.int p2), .val (.int p3), .val (.int fi), .val (.int la), .val (.int kk), .val (.int sp), .val (.ref b10), .val (.ref b20), .val (.ref b31), .unset, .unset, .unset, .unset, .unset] [(.int la), (.int rf), (.ref b45), (.ref b45)])) rfl (by rw [hml]; rfl) (Steps.refl _) (a := b45) (argsL := [(.int rf), (.int la)]) (rest := [(.ref b45)]) (lenOf pd_2 rfl) rfl (by show 2 * 0 + _ ≤ _; exact Nat.le_of_eq rfl) (hb hby at_105) (fun _ _ => ⟨rfl, e45, (by decide : 4 + 0 ≤ _), (by decide : 8 + 0 ≤ _)⟩)
  dsimp only [Pt.U, Pt.locs, Pt.cells, Pt.slots] at X60 l60 y60 z60 st60 hQ60
  subst l60 y60 z60
  obtain ⟨rfl, Nq60, K60, p60_1, p60_2, p60_3⟩ := hQ60
  have N61 := Fr.app N41 Nq60
  have J62 : ∀ t, Steps p.tables e below (T60.setTop (mkF m 108 #[.val (.int p1), .val (.int p2), .val (.int p3), .val (.int fi), .val (.int la), .val (.int kk), .val (.int sp), .val (.ref b10), .val (.ref b20), .val (.ref b31), .unset, .unset, .unset, .unset, .unset] [(.ref b45)])) t → Steps p.tables e below (s₁.setTop (entryFrame m #[(.int p1), (.int p2), (.int p3)] maxLocals)) t := fun t k => J59 t (st60.trans k)
  have Z63 : n0 ≤ T60.heap.size := Nat.le_trans Z55 K60.1
  have J64 : ∀ t, Steps p.tables e below (T60.setTop (mkF m 112 #[.val (.int p1), .val (.int p2), .val (.int p3), .val (.int fi), .val (.int la), .val (.int kk), .val (.int sp), .val (.ref b10), .val (.ref b20), .val (.ref b31), .val (.ref b45), .unset, .unset, .unset, .unset] [(.ref b10)])) t → Steps p.tables e below (s₁.setTop (entryFrame m #[(.int p1), (.int p2), (.int p3)] maxLocals)) t := fun t k => J62 t (by
      show Steps p.tables e below (T60.setTop (mkF m 108 #[.val (.int p1), .val (.int p2), .val (.int p3), .val (.int fi), .val (.int la), .val (.int kk), .val (.int sp), .val (.ref b10), .val (.ref b20), .val (.ref b31), .unset, .unset, .unset, .unset, .unset] [(.ref b45)])) _
      refine XS.astore X60.here hx rfl (hb hby at_108) rfl rfl (l' := #[.val (.int p1), .val (.int p2), .val (.int p3), .val (.int fi), .val (.int la), .val (.int kk), .val (.int sp), .val (.ref b10), .val (.ref b20), .val (.ref b31), .val (.ref b45), .unset, .unset, .unset, .unset]) rfl ?_
      show Steps p.tables e below (T60.setTop (mkF m 110 #[.val (.int p1), .val (.int p2), .val (.int p3), .val (.int fi), .val (.int la), .val (.int kk), .val (.int sp), .val (.ref b10), .val (.ref b20), .val (.ref b31), .val (.ref b45), .unset, .unset, .unset, .unset] [])) _
      refine XS.aload X60.here hx rfl (hb hby at_110) rfl rfl ?_
      exact k)
  have f65 := f47.ext E45
  have f66 := f65.keep K60
  have f67 := p15_3.ext E20
  have f68 := f67.keep K26 (ninS ne22 nin0)
  have f69 := f68.ext E31
  have f70 := f69.keep K40 (ninS ne35 nin0)
  have f71 := f70.ext E45
  have f72 := f71.keep K60 (ninS ne51 nin0)
  have f73 := p15_2.ext E20
  have f74 := f73.keep K26 (ninS ne22 nin0)
  have f75 := f74.ext E31
  have f76 := f75.keep K40 (ninS ne35 nin0)
  have f77 := f76.ext E45
  have f78 := f77.keep K60 (ninS ne51 nin0)
  obtain ⟨cq79, kq79, q79a, q79b, q79c⟩ := isOf hZ rfl f66
  obtain ⟨_, _, ⟨T79, L79, k79, n79⟩, -, X79, ⟨Lc79, hQ79, l79, y79, z79⟩, st79⟩ := X60.virtualBack hx (y := (⟨"com/example/capwright/capwright/ipr/PeakHours", "count", "()I"⟩ : MethodName)) (z := (⟨"com/example/capwright/capwright/ipr/PeakHours", "count", "()I"⟩ : MethodName)) hown (mvT hZ (hw _ (List.mem_of_getElem? (i := 22) rfl))) (mvT hZ (hw _ (List.mem_of_getElem? (i := 23) rfl))) (notFace_of_selects (args := #[]) (mvT hZ (hw _ (List.mem_of_getElem? (i := 25) rfl)))) (mvT hZ (hw _ (List.mem_of_getElem? (i := 25) rfl))) (mvT hZ (hw _ (List.mem_of_getElem? (i := 24) rfl))) (by decide) (backOf (W := 0) (rm5 l Z a0 hw [] b10 la fi T60.heap n0 Z63 f72 f78) hZ (hw _ (List.mem_of_getElem? (i := 26) rfl)) (hw _ (List.mem_of_getElem? (i := 3) rfl)) (by decide) (by decide)) q79a q79c (g := (mkF m 112 #[.val (.int p1), .val (.int p2), .val (.int p3), .val (.int fi), .val (.int la), .val (.int kk), .val (.int sp), .val (.ref b10), .val (.ref b20), .val (.ref b31), .val (.ref b45), .unset, .unset, .unset, .unset] [(.ref b10)])) rfl (by rw [hml]; rfl) (Steps.refl _) (argsL := []) (rest := []) (lenOf pd_3 rfl) rfl (by show 2 * 0 + _ ≤ _; exact Nat.le_of_eq rfl) (hb hby at_112) (fun _ _ => ⟨rfl, rfl, (by decide : 4 + 0 ≤ _), (by decide : 8 + 0 ≤ _)⟩)
  dsimp only [Pt.U, Pt.locs, Pt.cells, Pt.slots] at X79 l79 y79 z79 st79 hQ79
  subst l79 y79 z79
  obtain ⟨rfl, Nq79, e79⟩ := hQ79
  have N80 := Fr.app N61 Nq79
  have J81 : ∀ t, Steps p.tables e below (T79.setTop (mkF m 115 #[.val (.int p1), .val (.int p2), .val (.int p3), .val (.int fi), .val (.int la), .val (.int kk), .val (.int sp), .val (.ref b10), .val (.ref b20), .val (.ref b31), .val (.ref b45), .unset, .unset, .unset, .unset] [(.int ((la - fi) + (1 : Int32)))])) t → Steps p.tables e below (s₁.setTop (entryFrame m #[(.int p1), (.int p2), (.int p3)] maxLocals)) t := fun t k => J64 t (st79.trans k)
  have J82 : ∀ t, Steps p.tables e below (T79.setTop (mkF m 119 #[.val (.int p1), .val (.int p2), .val (.int p3), .val (.int fi), .val (.int la), .val (.int kk), .val (.int sp), .val (.ref b10), .val (.ref b20), .val (.ref b31), .val (.ref b45), .val (.int ((la - fi) + (1 : Int32))), .unset, .unset, .unset] [(.ref b20)])) t → Steps p.tables e below (s₁.setTop (entryFrame m #[(.int p1), (.int p2), (.int p3)] maxLocals)) t := fun t k => J81 t (by
      show Steps p.tables e below (T79.setTop (mkF m 115 #[.val (.int p1), .val (.int p2), .val (.int p3), .val (.int fi), .val (.int la), .val (.int kk), .val (.int sp), .val (.ref b10), .val (.ref b20), .val (.ref b31), .val (.ref b45), .unset, .unset, .unset, .unset] [(.int ((la - fi) + (1 : Int32)))])) _
      refine XS.istore X79.here hx rfl (hb hby at_115) rfl (l' := #[.val (.int p1), .val (.int p2), .val (.int p3), .val (.int fi), .val (.int la), .val (.int kk), .val (.int sp), .val (.ref b10), .val (.ref b20), .val (.ref b31), .val (.ref b45), .val (.int ((la - fi) + (1 : Int32))), .unset, .unset, .unset]) rfl ?_
      show Steps p.tables e below (T79.setTop (mkF m 117 #[.val (.int p1), .val (.int p2), .val (.int p3), .val (.int fi), .val (.int la), .val (.int kk), .val (.int sp), .val (.ref b10), .val (.ref b20), .val (.ref b31), .val (.ref b45), .val (.int ((la - fi) + (1 : Int32))), .unset, .unset, .unset] [])) _
      refine XS.aload X79.here hx rfl (hb hby at_117) rfl rfl ?_
      exact k)
  have f83 := f49.ext E45
  have f84 := f83.keep K60
  have f85 := p26_3.ext E31
  have f86 := f85.keep K40 (ninS ne36 nin0)
  have f87 := f86.ext E45
  have f88 := f87.keep K60 (ninS ne52 nin0)
  have f89 := p26_2.ext E31
  have f90 := f89.keep K40 (ninS ne36 nin0)
  have f91 := f90.ext E45
  have f92 := f91.keep K60 (ninS ne52 nin0)
  obtain ⟨cq93, kq93, q93a, q93b, q93c⟩ := isOf hZ e79 f84
  obtain ⟨_, _, ⟨T93, L93, k93, n93⟩, -, X93, ⟨Lc93, hQ93, l93, y93, z93⟩, st93⟩ := X79.virtualBack hx (y := (⟨"com/example/capwright/capwright/ipr/PeakHours", "count", "()I"⟩ : MethodName)) (z := (⟨"com/example/capwright/capwright/ipr/PeakHours", "count", "()I"⟩ : MethodName)) hown (mvT hZ (hw _ (List.mem_of_getElem? (i := 22) rfl))) (mvT hZ (hw _ (List.mem_of_getElem? (i := 23) rfl))) (notFace_of_selects (args := #[]) (mvT hZ (hw _ (List.mem_of_getElem? (i := 25) rfl)))) (mvT hZ (hw _ (List.mem_of_getElem? (i := 25) rfl))) (mvT hZ (hw _ (List.mem_of_getElem? (i := 24) rfl))) (by decide) (backOf (W := 0) (rm5 l Z a0 hw [] b20 fi fi T60.heap n0 Z63 f88 f92) hZ (hw _ (List.mem_of_getElem? (i := 26) rfl)) (hw _ (List.mem_of_getElem? (i := 3) rfl)) (by decide) (by decide)) q93a q93c (g := (mkF m 119 #[.val (.int p1), .val (.int p2), .val (.int p3), .val (.int fi), .val (.int la), .val (.int kk), .val (.int sp), .val (.ref b10), .val (.ref b20), .val (.ref b31), .val (.ref b45), .val (.int ((la - fi) + (1 : Int32))), .unset, .unset, .unset] [(.ref b20)])) rfl (by rw [hml]; rfl) (Steps.refl _) (argsL := []) (rest := []) (lenOf pd_3 rfl) rfl (by show 2 * 0 + _ ≤ _; exact Nat.le_of_eq rfl) (hb hby at_119) (fun _ _ => ⟨rfl, e79, (by decide : 4 + 0 ≤ _), (by decide : 8 + 0 ≤ _)⟩)
  dsimp only [Pt.U, Pt.locs, Pt.cells, Pt.slots] at X93 l93 y93 z93 st93 hQ93
  subst l93 y93 z93
  obtain ⟨rfl, Nq93, e93⟩ := hQ93
  have N94 := Fr.app N80 Nq93
  have J95 : ∀ t, Steps p.tables e below (T93.setTop (mkF m 122 #[.val (.int p1), .val (.int p2), .val (.int p3), .val (.int fi), .val (.int la), .val (.int kk), .val (.int sp), .val (.ref b10), .val (.ref b20), .val (.ref b31), .val (.ref b45), .val (.int ((la - fi) + (1 : Int32))), .unset, .unset, .unset] [(.int ((fi - fi) + (1 : Int32)))])) t → Steps p.tables e below (s₁.setTop (entryFrame m #[(.int p1), (.int p2), (.int p3)] maxLocals)) t := fun t k => J82 t (st93.trans k)
  have J96 : ∀ t, Steps p.tables e below (T93.setTop (mkF m 126 #[.val (.int p1), .val (.int p2), .val (.int p3), .val (.int fi), .val (.int la), .val (.int kk), .val (.int sp), .val (.ref b10), .val (.ref b20), .val (.ref b31), .val (.ref b45), .val (.int ((la - fi) + (1 : Int32))), .val (.int ((fi - fi) + (1 : Int32))), .unset, .unset] [(.ref b31)])) t → Steps p.tables e below (s₁.setTop (entryFrame m #[(.int p1), (.int p2), (.int p3)] maxLocals)) t := fun t k => J95 t (by
      show Steps p.tables e below (T93.setTop (mkF m 122 #[.val (.int p1), .val (.int p2), .val (.int p3), .val (.int fi), .val (.int la), .val (.int kk), .val (.int sp), .val (.ref b10), .val (.ref b20), .val (.ref b31), .val (.ref b45), .val (.int ((la - fi) + (1 : Int32))), .unset, .unset, .unset] [(.int ((fi - fi) + (1 : Int32)))])) _
      refine XS.istore X93.here hx rfl (hb hby at_122) rfl (l' := #[.val (.int p1), .val (.int p2), .val (.int p3), .val (.int fi), .val (.int la), .val (.int kk), .val (.int sp), .val (.ref b10), .val (.ref b20), .val (.ref b31), .val (.ref b45), .val (.int ((la - fi) + (1 : Int32))), .val (.int ((fi - fi) + (1 : Int32))), .unset, .unset]) rfl ?_
      show Steps p.tables e below (T93.setTop (mkF m 124 #[.val (.int p1), .val (.int p2), .val (.int p3), .val (.int fi), .val (.int la), .val (.int kk), .val (.int sp), .val (.ref b10), .val (.ref b20), .val (.ref b31), .val (.ref b45), .val (.int ((la - fi) + (1 : Int32))), .val (.int ((fi - fi) + (1 : Int32))), .unset, .unset] [])) _
      refine XS.aload X93.here hx rfl (hb hby at_124) rfl rfl ?_
      exact k)
  have f97 := p40_1.ext E45
  have f98 := f97.keep K60
  have f99 := p40_3.ext E45
  have f100 := f99.keep K60 (ninS ne53 nin0)
  have f101 := p40_2.ext E45
  have f102 := f101.keep K60 (ninS ne53 nin0)
  obtain ⟨cq103, kq103, q103a, q103b, q103c⟩ := isOf hZ e93 f98
  obtain ⟨_, _, ⟨T103, L103, k103, n103⟩, -, X103, ⟨Lc103, hQ103, l103, y103, z103⟩, st103⟩ := X93.virtualBack hx (y := (⟨"com/example/capwright/capwright/ipr/PeakHours", "count", "()I"⟩ : MethodName)) (z := (⟨"com/example/capwright/capwright/ipr/PeakHours", "count", "()I"⟩ : MethodName)) hown (mvT hZ (hw _ (List.mem_of_getElem? (i := 22) rfl))) (mvT hZ (hw _ (List.mem_of_getElem? (i := 23) rfl))) (notFace_of_selects (args := #[]) (mvT hZ (hw _ (List.mem_of_getElem? (i := 25) rfl)))) (mvT hZ (hw _ (List.mem_of_getElem? (i := 25) rfl))) (mvT hZ (hw _ (List.mem_of_getElem? (i := 24) rfl))) (by decide) (backOf (W := 0) (rm5 l Z a0 hw [] b31 kk fi T60.heap n0 Z63 f100 f102) hZ (hw _ (List.mem_of_getElem? (i := 26) rfl)) (hw _ (List.mem_of_getElem? (i := 3) rfl)) (by decide) (by decide)) q103a q103c (g := (mkF m 126 #[.val (.int p1), .val (.int p2), .val (.int p3), .val (.int fi), .val (.int la), .val (.int kk), .val (.int sp), .val (.ref b10), .val (.ref b20), .val (.ref b31), .val (.ref b45), .val (.int ((la - fi) + (1 : Int32))), .val (.int ((fi - fi) + (1 : Int32))), .unset, .unset] [(.ref b31)])) rfl (by rw [hml]; rfl) (Steps.refl _) (argsL := []) (rest := []) (lenOf pd_3 rfl) rfl (by show 2 * 0 + _ ≤ _; exact Nat.le_of_eq rfl) (hb hby at_126) (fun _ _ => ⟨rfl, e93, (by decide : 4 + 0 ≤ _), (by decide : 8 + 0 ≤ _)⟩)
  dsimp only [Pt.U, Pt.locs, Pt.cells, Pt.slots] at X103 l103 y103 z103 st103 hQ103
  subst l103 y103 z103
  obtain ⟨rfl, Nq103, e103⟩ := hQ103
  have N104 := Fr.app N94 Nq103
  have J105 : ∀ t, Steps p.tables e below (T103.setTop (mkF m 129 #[.val (.int p1), .val (.int p2), .val (.int p3), .val (.int fi), .val (.int la), .val (.int kk), .val (.int sp), .val (.ref b10), .val (.ref b20), .val (.ref b31), .val (.ref b45), .val (.int ((la - fi) + (1 : Int32))), .val (.int ((fi - fi) + (1 : Int32))), .unset, .unset] [(.int ((kk - fi) + (1 : Int32)))])) t → Steps p.tables e below (s₁.setTop (entryFrame m #[(.int p1), (.int p2), (.int p3)] maxLocals)) t := fun t k => J96 t (st103.trans k)
  have J106 : ∀ t, Steps p.tables e below (T103.setTop (mkF m 133 #[.val (.int p1), .val (.int p2), .val (.int p3), .val (.int fi), .val (.int la), .val (.int kk), .val (.int sp), .val (.ref b10), .val (.ref b20), .val (.ref b31), .val (.ref b45), .val (.int ((la - fi) + (1 : Int32))), .val (.int ((fi - fi) + (1 : Int32))), .val (.int ((kk - fi) + (1 : Int32))), .unset] [(.ref b45)])) t → Steps p.tables e below (s₁.setTop (entryFrame m #[(.int p1), (.int p2), (.int p3)] maxLocals)) t := fun t k => J105 t (by
      show Steps p.tables e below (T103.setTop (mkF m 129 #[.val (.int p1), .val (.int p2), .val (.int p3), .val (.int fi), .val (.int la), .val (.int kk), .val (.int sp), .val (.ref b10), .val (.ref b20), .val (.ref b31), .val (.ref b45), .val (.int ((la - fi) + (1 : Int32))), .val (.int ((fi - fi) + (1 : Int32))), .unset, .unset] [(.int ((kk - fi) + (1 : Int32)))])) _
      refine XS.istore X103.here hx rfl (hb hby at_129) rfl (l' := #[.val (.int p1), .val (.int p2), .val (.int p3), .val (.int fi), .val (.int la), .val (.int kk), .val (.int sp), .val (.ref b10), .val (.ref b20), .val (.ref b31), .val (.ref b45), .val (.int ((la - fi) + (1 : Int32))), .val (.int ((fi - fi) + (1 : Int32))), .val (.int ((kk - fi) + (1 : Int32))), .unset]) rfl ?_
      show Steps p.tables e below (T103.setTop (mkF m 131 #[.val (.int p1), .val (.int p2), .val (.int p3), .val (.int fi), .val (.int la), .val (.int kk), .val (.int sp), .val (.ref b10), .val (.ref b20), .val (.ref b31), .val (.ref b45), .val (.int ((la - fi) + (1 : Int32))), .val (.int ((fi - fi) + (1 : Int32))), .val (.int ((kk - fi) + (1 : Int32))), .unset] [])) _
      refine XS.aload X103.here hx rfl (hb hby at_131) rfl rfl ?_
      exact k)
  obtain ⟨cq107, kq107, q107a, q107b, q107c⟩ := isOf hZ e103 p60_1
  obtain ⟨_, _, ⟨T107, L107, k107, n107⟩, -, X107, ⟨Lc107, hQ107, l107, y107, z107⟩, st107⟩ := X103.virtualBack hx (y := (⟨"com/example/capwright/capwright/ipr/PeakHours", "count", "()I"⟩ : MethodName)) (z := (⟨"com/example/capwright/capwright/ipr/PeakHours", "count", "()I"⟩ : MethodName)) hown (mvT hZ (hw _ (List.mem_of_getElem? (i := 22) rfl))) (mvT hZ (hw _ (List.mem_of_getElem? (i := 23) rfl))) (notFace_of_selects (args := #[]) (mvT hZ (hw _ (List.mem_of_getElem? (i := 25) rfl)))) (mvT hZ (hw _ (List.mem_of_getElem? (i := 25) rfl))) (mvT hZ (hw _ (List.mem_of_getElem? (i := 24) rfl))) (by decide) (backOf (W := 0) (rm5 l Z a0 hw [] b45 la rf T60.heap n0 Z63 p60_3 p60_2) hZ (hw _ (List.mem_of_getElem? (i := 26) rfl)) (hw _ (List.mem_of_getElem? (i := 3) rfl)) (by decide) (by decide)) q107a q107c (g := (mkF m 133 #[.val (.int p1), .val (.int p2), .val (.int p3), .val (.int fi), .val (.int la), .val (.int kk), .val (.int sp), .val (.ref b10), .val (.ref b20), .val (.ref b31), .val (.ref b45), .val (.int ((la - fi) + (1 : Int32))), .val (.int ((fi - fi) + (1 : Int32))), .val (.int ((kk - fi) + (1 : Int32))), .unset] [(.ref b45)])) rfl (by rw [hml]; rfl) (Steps.refl _) (argsL := []) (rest := []) (lenOf pd_3 rfl) rfl (by show 2 * 0 + _ ≤ _; exact Nat.le_of_eq rfl) (hb hby at_133) (fun _ _ => ⟨rfl, e103, (by decide : 4 + 0 ≤ _), (by decide : 8 + 0 ≤ _)⟩)
  dsimp only [Pt.U, Pt.locs, Pt.cells, Pt.slots] at X107 l107 y107 z107 st107 hQ107
  subst l107 y107 z107
  obtain ⟨rfl, Nq107, e107⟩ := hQ107
  have N108 := Fr.app N104 Nq107
  have J109 : ∀ t, Steps p.tables e below (T107.setTop (mkF m 136 #[.val (.int p1), .val (.int p2), .val (.int p3), .val (.int fi), .val (.int la), .val (.int kk), .val (.int sp), .val (.ref b10), .val (.ref b20), .val (.ref b31), .val (.ref b45), .val (.int ((la - fi) + (1 : Int32))), .val (.int ((fi - fi) + (1 : Int32))), .val (.int ((kk - fi) + (1 : Int32))), .unset] [(.int ((la - rf) + (1 : Int32)))])) t → Steps p.tables e below (s₁.setTop (entryFrame m #[(.int p1), (.int p2), (.int p3)] maxLocals)) t := fun t k => J106 t (st107.trans k)
  have J110 : ∀ t, Steps p.tables e below (T107.setTop (mkF m 163 #[.val (.int p1), .val (.int p2), .val (.int p3), .val (.int fi), .val (.int la), .val (.int kk), .val (.int sp), .val (.ref b10), .val (.ref b20), .val (.ref b31), .val (.ref b45), .val (.int ((la - fi) + (1 : Int32))), .val (.int ((fi - fi) + (1 : Int32))), .val (.int ((kk - fi) + (1 : Int32))), .val (.int ((la - rf) + (1 : Int32)))] [(.int sp)])) t → Steps p.tables e below (s₁.setTop (entryFrame m #[(.int p1), (.int p2), (.int p3)] maxLocals)) t := fun t k => J109 t (by
      show Steps p.tables e below (T107.setTop (mkF m 136 #[.val (.int p1), .val (.int p2), .val (.int p3), .val (.int fi), .val (.int la), .val (.int kk), .val (.int sp), .val (.ref b10), .val (.ref b20), .val (.ref b31), .val (.ref b45), .val (.int ((la - fi) + (1 : Int32))), .val (.int ((fi - fi) + (1 : Int32))), .val (.int ((kk - fi) + (1 : Int32))), .unset] [(.int ((la - rf) + (1 : Int32)))])) _
      refine XS.istore X107.here hx rfl (hb hby at_136) rfl (l' := #[.val (.int p1), .val (.int p2), .val (.int p3), .val (.int fi), .val (.int la), .val (.int kk), .val (.int sp), .val (.ref b10), .val (.ref b20), .val (.ref b31), .val (.ref b45), .val (.int ((la - fi) + (1 : Int32))), .val (.int ((fi - fi) + (1 : Int32))), .val (.int ((kk - fi) + (1 : Int32))), .val (.int ((la - rf) + (1 : Int32)))]) rfl ?_
      show Steps p.tables e below (T107.setTop (mkF m 138 #[.val (.int p1), .val (.int p2), .val (.int p3), .val (.int fi), .val (.int la), .val (.int kk), .val (.int sp), .val (.ref b10), .val (.ref b20), .val (.ref b31), .val (.ref b45), .val (.int ((la - fi) + (1 : Int32))), .val (.int ((fi - fi) + (1 : Int32))), .val (.int ((kk - fi) + (1 : Int32))), .val (.int ((la - rf) + (1 : Int32)))] [])) _
      refine XS.iload X107.here hx rfl (hb hby at_138) rfl ?_
      show Steps p.tables e below (T107.setTop (mkF m 140 #[.val (.int p1), .val (.int p2), .val (.int p3), .val (.int fi), .val (.int la), .val (.int kk), .val (.int sp), .val (.ref b10), .val (.ref b20), .val (.ref b31), .val (.ref b45), .val (.int ((la - fi) + (1 : Int32))), .val (.int ((fi - fi) + (1 : Int32))), .val (.int ((kk - fi) + (1 : Int32))), .val (.int ((la - rf) + (1 : Int32)))] [(.int ((fi - fi) + (1 : Int32)))])) _
      refine XS.iconst X107.here hx rfl (hb hby at_140) ?_
      show Steps p.tables e below (T107.setTop (mkF m 141 #[.val (.int p1), .val (.int p2), .val (.int p3), .val (.int fi), .val (.int la), .val (.int kk), .val (.int sp), .val (.ref b10), .val (.ref b20), .val (.ref b31), .val (.ref b45), .val (.int ((la - fi) + (1 : Int32))), .val (.int ((fi - fi) + (1 : Int32))), .val (.int ((kk - fi) + (1 : Int32))), .val (.int ((la - rf) + (1 : Int32)))] [(.int (1 : Int32)), (.int ((fi - fi) + (1 : Int32)))])) _
      refine XS.icmpYes X107.here hx rfl (pc0 := 141) (pc' := 146) rfl (hb hby at_141) rfl (teq (own_one fi)).1 (by decide) (by decide) ?_
      show Steps p.tables e below (T107.setTop (mkF m 146 #[.val (.int p1), .val (.int p2), .val (.int p3), .val (.int fi), .val (.int la), .val (.int kk), .val (.int sp), .val (.ref b10), .val (.ref b20), .val (.ref b31), .val (.ref b45), .val (.int ((la - fi) + (1 : Int32))), .val (.int ((fi - fi) + (1 : Int32))), .val (.int ((kk - fi) + (1 : Int32))), .val (.int ((la - rf) + (1 : Int32)))] [])) _
      refine XS.iload X107.here hx rfl (hb hby at_146) rfl ?_
      show Steps p.tables e below (T107.setTop (mkF m 148 #[.val (.int p1), .val (.int p2), .val (.int p3), .val (.int fi), .val (.int la), .val (.int kk), .val (.int sp), .val (.ref b10), .val (.ref b20), .val (.ref b31), .val (.ref b45), .val (.int ((la - fi) + (1 : Int32))), .val (.int ((fi - fi) + (1 : Int32))), .val (.int ((kk - fi) + (1 : Int32))), .val (.int ((la - rf) + (1 : Int32)))] [(.int ((la - fi) + (1 : Int32)))])) _
      refine XS.iconst X107.here hx rfl (hb hby at_148) ?_
      show Steps p.tables e below (T107.setTop (mkF m 149 #[.val (.int p1), .val (.int p2), .val (.int p3), .val (.int fi), .val (.int la), .val (.int kk), .val (.int sp), .val (.ref b10), .val (.ref b20), .val (.ref b31), .val (.ref b45), .val (.int ((la - fi) + (1 : Int32))), .val (.int ((fi - fi) + (1 : Int32))), .val (.int ((kk - fi) + (1 : Int32))), .val (.int ((la - rf) + (1 : Int32)))] [(.int (1 : Int32)), (.int ((la - fi) + (1 : Int32)))])) _
      refine XS.icmpNo X107.here hx rfl (hb hby at_149) rfl (flt (own_w1 bf bl)).1 ?_
      show Steps p.tables e below (T107.setTop (mkF m 152 #[.val (.int p1), .val (.int p2), .val (.int p3), .val (.int fi), .val (.int la), .val (.int kk), .val (.int sp), .val (.ref b10), .val (.ref b20), .val (.ref b31), .val (.ref b45), .val (.int ((la - fi) + (1 : Int32))), .val (.int ((fi - fi) + (1 : Int32))), .val (.int ((kk - fi) + (1 : Int32))), .val (.int ((la - rf) + (1 : Int32)))] [])) _
      refine XS.iload X107.here hx rfl (hb hby at_152) rfl ?_
      show Steps p.tables e below (T107.setTop (mkF m 154 #[.val (.int p1), .val (.int p2), .val (.int p3), .val (.int fi), .val (.int la), .val (.int kk), .val (.int sp), .val (.ref b10), .val (.ref b20), .val (.ref b31), .val (.ref b45), .val (.int ((la - fi) + (1 : Int32))), .val (.int ((fi - fi) + (1 : Int32))), .val (.int ((kk - fi) + (1 : Int32))), .val (.int ((la - rf) + (1 : Int32)))] [(.int ((la - fi) + (1 : Int32)))])) _
      refine XS.bipush X107.here hx rfl (hb hby at_154) ?_
      show Steps p.tables e below (T107.setTop (mkF m 156 #[.val (.int p1), .val (.int p2), .val (.int p3), .val (.int fi), .val (.int la), .val (.int kk), .val (.int sp), .val (.ref b10), .val (.ref b20), .val (.ref b31), .val (.ref b45), .val (.int ((la - fi) + (1 : Int32))), .val (.int ((fi - fi) + (1 : Int32))), .val (.int ((kk - fi) + (1 : Int32))), .val (.int ((la - rf) + (1 : Int32)))] [(.int (24 : Int32)), (.int ((la - fi) + (1 : Int32)))])) _
      refine XS.icmpYes X107.here hx rfl (pc0 := 156) (pc' := 161) rfl (hb hby at_156) rfl (flt (own_w24 bf bl)).2.2.2 (by decide) (by decide) ?_
      show Steps p.tables e below (T107.setTop (mkF m 161 #[.val (.int p1), .val (.int p2), .val (.int p3), .val (.int fi), .val (.int la), .val (.int kk), .val (.int sp), .val (.ref b10), .val (.ref b20), .val (.ref b31), .val (.ref b45), .val (.int ((la - fi) + (1 : Int32))), .val (.int ((fi - fi) + (1 : Int32))), .val (.int ((kk - fi) + (1 : Int32))), .val (.int ((la - rf) + (1 : Int32)))] [])) _
      refine XS.iload X107.here hx rfl (hb hby at_161) rfl ?_
      exact k)
  by_cases hz : sp = (0 : Int32)
  ·
    have J111 : ∀ t, Steps p.tables e below (T107.setTop (mkF m 200 #[.val (.int p1), .val (.int p2), .val (.int p3), .val (.int fi), .val (.int la), .val (.int kk), .val (.int sp), .val (.ref b10), .val (.ref b20), .val (.ref b31), .val (.ref b45), .val (.int ((la - fi) + (1 : Int32))), .val (.int ((fi - fi) + (1 : Int32))), .val (.int ((kk - fi) + (1 : Int32))), .val (.int ((la - rf) + (1 : Int32)))] [(.int (1 : Int32))])) t → Steps p.tables e below (s₁.setTop (entryFrame m #[(.int p1), (.int p2), (.int p3)] maxLocals)) t := fun t k => J110 t (by
        show Steps p.tables e below (T107.setTop (mkF m 163 #[.val (.int p1), .val (.int p2), .val (.int p3), .val (.int fi), .val (.int la), .val (.int kk), .val (.int sp), .val (.ref b10), .val (.ref b20), .val (.ref b31), .val (.ref b45), .val (.int ((la - fi) + (1 : Int32))), .val (.int ((fi - fi) + (1 : Int32))), .val (.int ((kk - fi) + (1 : Int32))), .val (.int ((la - rf) + (1 : Int32)))] [(.int sp)])) _
        refine XS.ifYes X107.here hx rfl (pc0 := 163) (pc' := 182) rfl (hb hby at_163) rfl ((if0 _ _).trans (teq hz).1) (by decide) (by decide) ?_
        show Steps p.tables e below (T107.setTop (mkF m 182 #[.val (.int p1), .val (.int p2), .val (.int p3), .val (.int fi), .val (.int la), .val (.int kk), .val (.int sp), .val (.ref b10), .val (.ref b20), .val (.ref b31), .val (.ref b45), .val (.int ((la - fi) + (1 : Int32))), .val (.int ((fi - fi) + (1 : Int32))), .val (.int ((kk - fi) + (1 : Int32))), .val (.int ((la - rf) + (1 : Int32)))] [])) _
        refine XS.iload X107.here hx rfl (hb hby at_182) rfl ?_
        show Steps p.tables e below (T107.setTop (mkF m 184 #[.val (.int p1), .val (.int p2), .val (.int p3), .val (.int fi), .val (.int la), .val (.int kk), .val (.int sp), .val (.ref b10), .val (.ref b20), .val (.ref b31), .val (.ref b45), .val (.int ((la - fi) + (1 : Int32))), .val (.int ((fi - fi) + (1 : Int32))), .val (.int ((kk - fi) + (1 : Int32))), .val (.int ((la - rf) + (1 : Int32)))] [(.int ((kk - fi) + (1 : Int32)))])) _
        refine XS.iload X107.here hx rfl (hb hby at_184) rfl ?_
        show Steps p.tables e below (T107.setTop (mkF m 186 #[.val (.int p1), .val (.int p2), .val (.int p3), .val (.int fi), .val (.int la), .val (.int kk), .val (.int sp), .val (.ref b10), .val (.ref b20), .val (.ref b31), .val (.ref b45), .val (.int ((la - fi) + (1 : Int32))), .val (.int ((fi - fi) + (1 : Int32))), .val (.int ((kk - fi) + (1 : Int32))), .val (.int ((la - rf) + (1 : Int32)))] [(.int ((la - fi) + (1 : Int32))), (.int ((kk - fi) + (1 : Int32)))])) _
        refine XS.icmpNo X107.here hx rfl (hb hby at_186) rfl (teq (own_lw fi la kk sp bk hsp hz)).2 ?_
        show Steps p.tables e below (T107.setTop (mkF m 189 #[.val (.int p1), .val (.int p2), .val (.int p3), .val (.int fi), .val (.int la), .val (.int kk), .val (.int sp), .val (.ref b10), .val (.ref b20), .val (.ref b31), .val (.ref b45), .val (.int ((la - fi) + (1 : Int32))), .val (.int ((fi - fi) + (1 : Int32))), .val (.int ((kk - fi) + (1 : Int32))), .val (.int ((la - rf) + (1 : Int32)))] [])) _
        refine XS.iload X107.here hx rfl (hb hby at_189) rfl ?_
        show Steps p.tables e below (T107.setTop (mkF m 191 #[.val (.int p1), .val (.int p2), .val (.int p3), .val (.int fi), .val (.int la), .val (.int kk), .val (.int sp), .val (.ref b10), .val (.ref b20), .val (.ref b31), .val (.ref b45), .val (.int ((la - fi) + (1 : Int32))), .val (.int ((fi - fi) + (1 : Int32))), .val (.int ((kk - fi) + (1 : Int32))), .val (.int ((la - rf) + (1 : Int32)))] [(.int ((la - rf) + (1 : Int32)))])) _
        refine XS.iconst X107.here hx rfl (hb hby at_191) ?_
        show Steps p.tables e below (T107.setTop (mkF m 192 #[.val (.int p1), .val (.int p2), .val (.int p3), .val (.int fi), .val (.int la), .val (.int kk), .val (.int sp), .val (.ref b10), .val (.ref b20), .val (.ref b31), .val (.ref b45), .val (.int ((la - fi) + (1 : Int32))), .val (.int ((fi - fi) + (1 : Int32))), .val (.int ((kk - fi) + (1 : Int32))), .val (.int ((la - rf) + (1 : Int32)))] [(.int (1 : Int32)), (.int ((la - rf) + (1 : Int32)))])) _
        refine XS.icmpNo X107.here hx rfl (hb hby at_192) rfl (teq (own_r1 la kk sp rf hrf hz)).2 ?_
        show Steps p.tables e below (T107.setTop (mkF m 195 #[.val (.int p1), .val (.int p2), .val (.int p3), .val (.int fi), .val (.int la), .val (.int kk), .val (.int sp), .val (.ref b10), .val (.ref b20), .val (.ref b31), .val (.ref b45), .val (.int ((la - fi) + (1 : Int32))), .val (.int ((fi - fi) + (1 : Int32))), .val (.int ((kk - fi) + (1 : Int32))), .val (.int ((la - rf) + (1 : Int32)))] [])) _
        refine XS.iconst X107.here hx rfl (hb hby at_195) ?_
        show Steps p.tables e below (T107.setTop (mkF m 196 #[.val (.int p1), .val (.int p2), .val (.int p3), .val (.int fi), .val (.int la), .val (.int kk), .val (.int sp), .val (.ref b10), .val (.ref b20), .val (.ref b31), .val (.ref b45), .val (.int ((la - fi) + (1 : Int32))), .val (.int ((fi - fi) + (1 : Int32))), .val (.int ((kk - fi) + (1 : Int32))), .val (.int ((la - rf) + (1 : Int32)))] [(.int (1 : Int32))])) _
        refine XS.goto X107.here hx rfl (pc0 := 196) (pc' := 200) rfl (hb hby at_196) (by decide) (by decide) ?_
        exact k)
    obtain ⟨fs, hr, hrun, hended, hW, hsame⟩ := X107.leave (v := some (.int (1 : Int32))) (fun h => by rw [Bd.returns] at h; cases h)
    refine ⟨_, _, J111 _ ?_, hrun, hended, _, _, rfl, ?_, ⟨_, rfl⟩, hW, hsame.mono (by decide) (by decide)⟩
    · show Steps p.tables e below (T107.setTop (mkF m 200 #[.val (.int p1), .val (.int p2), .val (.int p3), .val (.int fi), .val (.int la), .val (.int kk), .val (.int sp), .val (.ref b10), .val (.ref b20), .val (.ref b31), .val (.ref b45), .val (.int ((la - fi) + (1 : Int32))), .val (.int ((fi - fi) + (1 : Int32))), .val (.int ((kk - fi) + (1 : Int32))), .val (.int ((la - rf) + (1 : Int32)))] [(.int (1 : Int32))])) _
      exact retN X107 hx (t := .boolean) Bd.returns (by simp) (hb hby at_200) hr
    · show Q0 Z p1 p2 p3 h0 n0 _ T107.heap _
      rw [e107]
      exact ⟨rfl, N108⟩
  ·
    have J112 : ∀ t, Steps p.tables e below (T107.setTop (mkF m 181 #[.val (.int p1), .val (.int p2), .val (.int p3), .val (.int fi), .val (.int la), .val (.int kk), .val (.int sp), .val (.ref b10), .val (.ref b20), .val (.ref b31), .val (.ref b45), .val (.int ((la - fi) + (1 : Int32))), .val (.int ((fi - fi) + (1 : Int32))), .val (.int ((kk - fi) + (1 : Int32))), .val (.int ((la - rf) + (1 : Int32)))] [(.int (1 : Int32))])) t → Steps p.tables e below (s₁.setTop (entryFrame m #[(.int p1), (.int p2), (.int p3)] maxLocals)) t := fun t k => J110 t (by
        show Steps p.tables e below (T107.setTop (mkF m 163 #[.val (.int p1), .val (.int p2), .val (.int p3), .val (.int fi), .val (.int la), .val (.int kk), .val (.int sp), .val (.ref b10), .val (.ref b20), .val (.ref b31), .val (.ref b45), .val (.int ((la - fi) + (1 : Int32))), .val (.int ((fi - fi) + (1 : Int32))), .val (.int ((kk - fi) + (1 : Int32))), .val (.int ((la - rf) + (1 : Int32)))] [(.int sp)])) _
        refine XS.ifNo X107.here hx rfl (hb hby at_163) rfl ((if0 _ _).trans (feq hz).1) ?_
        show Steps p.tables e below (T107.setTop (mkF m 166 #[.val (.int p1), .val (.int p2), .val (.int p3), .val (.int fi), .val (.int la), .val (.int kk), .val (.int sp), .val (.ref b10), .val (.ref b20), .val (.ref b31), .val (.ref b45), .val (.int ((la - fi) + (1 : Int32))), .val (.int ((fi - fi) + (1 : Int32))), .val (.int ((kk - fi) + (1 : Int32))), .val (.int ((la - rf) + (1 : Int32)))] [])) _
        refine XS.iload X107.here hx rfl (hb hby at_166) rfl ?_
        show Steps p.tables e below (T107.setTop (mkF m 168 #[.val (.int p1), .val (.int p2), .val (.int p3), .val (.int fi), .val (.int la), .val (.int kk), .val (.int sp), .val (.ref b10), .val (.ref b20), .val (.ref b31), .val (.ref b45), .val (.int ((la - fi) + (1 : Int32))), .val (.int ((fi - fi) + (1 : Int32))), .val (.int ((kk - fi) + (1 : Int32))), .val (.int ((la - rf) + (1 : Int32)))] [(.int ((kk - fi) + (1 : Int32)))])) _
        refine XS.iload X107.here hx rfl (hb hby at_168) rfl ?_
        show Steps p.tables e below (T107.setTop (mkF m 170 #[.val (.int p1), .val (.int p2), .val (.int p3), .val (.int fi), .val (.int la), .val (.int kk), .val (.int sp), .val (.ref b10), .val (.ref b20), .val (.ref b31), .val (.ref b45), .val (.int ((la - fi) + (1 : Int32))), .val (.int ((fi - fi) + (1 : Int32))), .val (.int ((kk - fi) + (1 : Int32))), .val (.int ((la - rf) + (1 : Int32)))] [(.int ((la - rf) + (1 : Int32))), (.int ((kk - fi) + (1 : Int32)))])) _
        refine XS.iadd X107.here hx rfl (hb hby at_170) rfl ?_
        show Steps p.tables e below (T107.setTop (mkF m 171 #[.val (.int p1), .val (.int p2), .val (.int p3), .val (.int fi), .val (.int la), .val (.int kk), .val (.int sp), .val (.ref b10), .val (.ref b20), .val (.ref b31), .val (.ref b45), .val (.int ((la - fi) + (1 : Int32))), .val (.int ((fi - fi) + (1 : Int32))), .val (.int ((kk - fi) + (1 : Int32))), .val (.int ((la - rf) + (1 : Int32)))] [(.int (((kk - fi) + (1 : Int32)) + ((la - rf) + (1 : Int32))))])) _
        refine XS.iload X107.here hx rfl (hb hby at_171) rfl ?_
        show Steps p.tables e below (T107.setTop (mkF m 173 #[.val (.int p1), .val (.int p2), .val (.int p3), .val (.int fi), .val (.int la), .val (.int kk), .val (.int sp), .val (.ref b10), .val (.ref b20), .val (.ref b31), .val (.ref b45), .val (.int ((la - fi) + (1 : Int32))), .val (.int ((fi - fi) + (1 : Int32))), .val (.int ((kk - fi) + (1 : Int32))), .val (.int ((la - rf) + (1 : Int32)))] [(.int ((la - fi) + (1 : Int32))), (.int (((kk - fi) + (1 : Int32)) + ((la - rf) + (1 : Int32))))])) _
        refine XS.icmpNo X107.here hx rfl (hb hby at_173) rfl (teq (own_sum fi la kk sp rf hrf hz)).2 ?_
        show Steps p.tables e below (T107.setTop (mkF m 176 #[.val (.int p1), .val (.int p2), .val (.int p3), .val (.int fi), .val (.int la), .val (.int kk), .val (.int sp), .val (.ref b10), .val (.ref b20), .val (.ref b31), .val (.ref b45), .val (.int ((la - fi) + (1 : Int32))), .val (.int ((fi - fi) + (1 : Int32))), .val (.int ((kk - fi) + (1 : Int32))), .val (.int ((la - rf) + (1 : Int32)))] [])) _
        refine XS.iconst X107.here hx rfl (hb hby at_176) ?_
        show Steps p.tables e below (T107.setTop (mkF m 177 #[.val (.int p1), .val (.int p2), .val (.int p3), .val (.int fi), .val (.int la), .val (.int kk), .val (.int sp), .val (.ref b10), .val (.ref b20), .val (.ref b31), .val (.ref b45), .val (.int ((la - fi) + (1 : Int32))), .val (.int ((fi - fi) + (1 : Int32))), .val (.int ((kk - fi) + (1 : Int32))), .val (.int ((la - rf) + (1 : Int32)))] [(.int (1 : Int32))])) _
        refine XS.goto X107.here hx rfl (pc0 := 177) (pc' := 181) rfl (hb hby at_177) (by decide) (by decide) ?_
        exact k)
    obtain ⟨fs, hr, hrun, hended, hW, hsame⟩ := X107.leave (v := some (.int (1 : Int32))) (fun h => by rw [Bd.returns] at h; cases h)
    refine ⟨_, _, J112 _ ?_, hrun, hended, _, _, rfl, ?_, ⟨_, rfl⟩, hW, hsame.mono (by decide) (by decide)⟩
    · show Steps p.tables e below (T107.setTop (mkF m 181 #[.val (.int p1), .val (.int p2), .val (.int p3), .val (.int fi), .val (.int la), .val (.int kk), .val (.int sp), .val (.ref b10), .val (.ref b20), .val (.ref b31), .val (.ref b45), .val (.int ((la - fi) + (1 : Int32))), .val (.int ((fi - fi) + (1 : Int32))), .val (.int ((kk - fi) + (1 : Int32))), .val (.int ((la - rf) + (1 : Int32)))] [(.int (1 : Int32))])) _
      exact retN X107 hx (t := .boolean) Bd.returns (by simp) (hb hby at_181) hr
    · show Q0 Z p1 p2 p3 h0 n0 _ T107.heap _
      rw [e107]
      exact ⟨rfl, N108⟩
set_option maxRecDepth 65536 in
set_option maxHeartbeats 40000000 in
theorem comes_1 {Post : Tables → Env → Array Value → State → Outcome → State → Prop} (hpost : ∀ tb e args s v u, (limb_1_1.after args s (.returned v) u = true ∧ limb_1_2.after args s (.returned v) u = true ∧ True) → FrameEnd s (.returned v) u (Jvm.fieldLocs frame_1_writes args s ++ Jvm.arrayLocs frame_1_arrays args s ++ Jvm.staticLocs frame_1_statics s) 16 128 → Post tb e args s (.returned v) u) :
    ArmFor flags0 classFile x code maxLocals ret World_1 tables_1 room_1 Calls_1 rest_1 Pre_1 Post := by
  intro l hfl _ _ p e ha hc hk s m args below hf hA hF happ hP
  obtain ⟨hcalls, hrest, hpre⟩ := hP
  obtain ⟨-, -, -, hnamed, -, -, -, hat⟩ := (Spec.applies_iff hf).mp happ
  obtain ⟨hg, hn⟩ := and_e (Cond.before_iff.mp (show (Jvm.Cond.and given_1 narrow_1).before args s = true from hpre))
  obtain ⟨hcount, hg0⟩ := and_e hg
  obtain ⟨ga0, hg1⟩ := and_e hg0
  obtain ⟨ga1, hg2⟩ := and_e hg1
  obtain ⟨w0, w1, w2, rfl⟩ : ∃ w0 w1 w2 : Value, args = #[w0, w1, w2] := by
    have hs : args.size = 3 := by simpa [Cond.value, given_1] using hcount
    obtain ⟨L⟩ := args
    match L, hs with
    | [w0, w1, w2], _ => exact ⟨w0, w1, w2, rfl⟩
  have hw := fun d (hd : d ∈ tables_1) => atoms_spec (ws := Jvm.Cond.code x code maxLocals ret :: tables_1) hat d (List.mem_cons_of_mem _ hd)
  have hfit : Fit s := fun {y c} hc i hi => by
    obtain ⟨ha, rfl⟩ := Array.getElem?_eq_some_iff.mp hc
    have q := List.all_eq_true.mp ((Array.all_eq_true_iff_forall_mem.mp hF) _ (Array.getElem_mem ha)) i (List.mem_range.mpr hi)
    simpa [Array.getElem?_eq_getElem hi] using q
  obtain ⟨i0, ei0⟩ := is_v ga0
  obtain rfl : w0 = (.int i0) := Option.some.inj ei0
  obtain ⟨i1, ei1⟩ := is_v ga1
  obtain rfl : w1 = (.int i1) := Option.some.inj ei1
  obtain ⟨i2, ei2⟩ := is_v hg2
  obtain rfl : w2 = (.int i2) := Option.some.inj ei2
  obtain ⟨n, o, h1, h2, h3, _, L, rfl, ⟨rfl, N⟩, hq⟩ := rm0 l s _ hw tables_1 i0 i1 i2 s.heap s.heap.size (Nat.le_refl _)  p e ha hc hk s m _ below hf ((Spec.applies_iff_loose hf).mp happ).1 ⟨rfl, State.Warmed39.refl s, rfl⟩ trivial
  refine ⟨n, _, h1, h2, h3, hpost _ _ _ _ _ _ ⟨Cond.after_iff.mpr rfl, Cond.after_iff.mpr (eq_i res_at (Term.int_eval (1)) rfl), trivial⟩ ⟨hq.1, hq.2.1, (hq.2.2.sift fun y hy => Or.inr (N y hy)).mono (by decide) (by decide)⟩⟩
theorem main_1_1 : Claimed_1_1 := comes_1 fun _ _ _ _ _ _ h hF => ⟨h.1, hF⟩
theorem main_1_2 : Claimed_1_2 := comes_1 fun _ _ _ _ _ _ h hF => ⟨h.2.1, hF⟩
end Jvm.Pilot.@@N@@
namespace Jvm.Pilot.@@N@@
open Jvm Jvm.ClassFile Sem Op Lib Jvm.Free Jvm.Stand Jvm.Pilot.@@N@@.Jvm.D
/-! MADE BY PROGRAM (witnessworld.py) out of the Statement's table words and the real class files: 8 classes; the members and pool entries that the words name. The judged class is class 1, her method 1. -/
namespace start1
open Jvm.ClassFile
def u (s : String) : CpInfo := .utf8 (stringToUtf16 s)
/-- a pool by its gaps: so many unusable entries, then the entry; so many at the end -/
def gap : Nat → List CpInfo → List CpInfo
  | 0, r => r
  | n + 1, r => .unusable :: gap n r
def poolList (es : List (Nat × CpInfo)) (last : Nat) : List CpInfo := es.foldr (fun e r => gap e.1 (e.2 :: r)) (gap last [])
def pool (es : List (Nat × CpInfo)) (last : Nat) : Array CpInfo := ⟨poolList es last⟩
def fileOf (pool : Array CpInfo) (this : Nat) (attrs : Array Attribute := #[]) (ms : Array MethodInfo := #[]) (fl : Nat := 33) (sup : Nat := 0) (ifs : Array Nat := #[]) (fds : Array FieldInfo := #[]) : ClassFile where
  minorVersion := 0
  majorVersion := 65
  constantPool := pool
  accessFlags := fl
  thisClass := this
  superClass := sup
  interfaces := ifs
  fields := fds
  methods := ms
  attributes := attrs
def plain (name : String) (sup : Option ClassId) : Class where
  name := name
  kind := .ordinary
  loader := none
  accessFlags := 33
  super := sup
  interfaces := #[]
  cf := none
  fields := #[]
  methods := #[]
  instanceTypes := #[]
  staticTypes := #[]
  resolved := #[]
  callSites := []
  init := .initialized
  statics := none
  mirror := none

def pool0 : Array CpInfo := pool [(5, u "<init>"), (0, u "()V"), (1, .class_ 10), (1, u "java/lang/Object")] 113

def k0c0 : Code := { maxStack := 0, maxLocals := 1, code := object_method_1_code, exceptionTable := #[], attributes := #[] }
def k0m0 : Method := { name := "<init>", desc := "()V", sig := { parameters := [], returnType := none }, accessFlags := 1, code := some k0c0 }
/-- java/lang/Object -/
def k0 : Class := { plain "java/lang/Object" none with
  accessFlags := 33
  interfaces := #[]
  cf := some (fileOf pool0 8 #[] #[{ accessFlags := 1, nameIndex := 5, descriptorIndex := 6, attributes := #[] }] 33 0 #[] #[])
  fields := #[]
  methods := #[k0m0]
  instanceTypes := #[]
  staticTypes := #[]
  resolved := Array.replicate 124 none
  statics := none }

def pool1 : Array CpInfo := pool [(2, .class_ 4), (1, u "java/lang/Object"), (0, u "<init>"), (0, u "()V"), (0, .integer 2147483647), (0, .class_ 9), (0, u "com/example/capwright/capwright/ipr/PeakHours"), (0, .methodref 8 11), (0, .nameAndType 5 12), (0, u "(II)V"), (0, .methodref 8 14), (0, .nameAndType 15 16), (0, u "count"), (0, u "()I"), (0, .class_ 18), (0, u "com/example/capwright/capwright/ipr/PeakHoursCountPinLaw"), (2, u "law"), (0, u "(III)Z")] 3

def k1m0 : Method := { name := "<init>", desc := "()V", sig := { parameters := [], returnType := none }, accessFlags := 1, code := none }
def k1c1 : Code := { maxStack := 4, maxLocals := 15, code := code, exceptionTable := #[], attributes := #[] }
def k1m1 : Method := { name := "law", desc := "(III)Z", sig := { parameters := [.int, .int, .int], returnType := some .boolean }, accessFlags := 9, code := some k1c1 }
/-- com/example/capwright/capwright/ipr/PeakHoursCountPinLaw -/
def k1 : Class := { plain "com/example/capwright/capwright/ipr/PeakHoursCountPinLaw" (some 0) with
  accessFlags := 49
  interfaces := #[]
  cf := some (fileOf pool1 17 #[] #[{ accessFlags := 1, nameIndex := 5, descriptorIndex := 6, attributes := #[] }, { accessFlags := 9, nameIndex := 21, descriptorIndex := 22, attributes := #[] }] 49 2 #[] #[])
  fields := #[]
  methods := #[k1m0, k1m1]
  instanceTypes := #[]
  staticTypes := #[]
  resolved := Array.replicate 26 none
  statics := none }

def pool2 : Array CpInfo := pool [(1, .methodref 2 3), (0, .class_ 4), (0, .nameAndType 5 6), (0, u "java/lang/Object"), (0, u "<init>"), (0, u "()V"), (0, .class_ 8), (0, u "java/lang/Record")] 13

def k2c0 : Code := { maxStack := 1, maxLocals := 1, code := jdk_30_method_1_code, exceptionTable := #[], attributes := #[] }
def k2m0 : Method := { name := "<init>", desc := "()V", sig := { parameters := [], returnType := none }, accessFlags := 4, code := some k2c0 }
/-- java/lang/Record -/
def k2 : Class := { plain "java/lang/Record" (some 0) with
  accessFlags := 1057
  interfaces := #[]
  cf := some (fileOf pool2 7 #[] #[{ accessFlags := 4, nameIndex := 5, descriptorIndex := 6, attributes := #[] }] 1057 2 #[] #[])
  fields := #[]
  methods := #[k2m0]
  instanceTypes := #[]
  staticTypes := #[]
  resolved := Array.replicate 22 none
  statics := none }

def pool3 : Array CpInfo := pool [(1, .methodref 2 3), (0, .class_ 4), (0, .nameAndType 5 6), (0, u "java/lang/Record"), (0, u "<init>"), (0, u "()V"), (0, .methodref 8 9), (0, .class_ 10), (0, .nameAndType 11 12), (0, u "com/example/capwright/capwright/ipr/PeakHours"), (0, u "isWindow"), (0, u "(II)Z"), (27, .fieldref 8 41), (0, .nameAndType 42 43), (0, u "first"), (0, u "I"), (0, .fieldref 8 45), (0, .nameAndType 46 43), (0, u "last"), (2, u "NAME"), (0, u "Ljava/util/regex/Pattern;"), (24, u "(II)V"), (5, u "WEIGHTINGS"), (0, u "Ljava/util/List;"), (32, .class_ 117), (1, u "com/example/capwright/capwright/ipr/PeakHours$Weighting"), (47, u "LAST_HOUR"), (10, u "count"), (0, u "()I")] 65

def k3c0 : Code := { maxStack := 8, maxLocals := 3, code := prog_54_method_1_code, exceptionTable := #[], attributes := #[] }
def k3m0 : Method := { name := "<init>", desc := "(II)V", sig := { parameters := [.int, .int], returnType := none }, accessFlags := 1, code := some k3c0 }
def k3c1 : Code := { maxStack := 2, maxLocals := 2, code := prog_54_method_3_code, exceptionTable := #[], attributes := #[] }
def k3m1 : Method := { name := "isWindow", desc := "(II)Z", sig := { parameters := [.int, .int], returnType := some .boolean }, accessFlags := 10, code := some k3c1 }
def k3c2 : Code := { maxStack := 2, maxLocals := 1, code := prog_54_method_4_code, exceptionTable := #[], attributes := #[] }
def k3m2 : Method := { name := "count", desc := "()I", sig := { parameters := [], returnType := some .int }, accessFlags := 1, code := some k3c2 }
/-- com/example/capwright/capwright/ipr/PeakHours -/
def k3 : Class := { plain "com/example/capwright/capwright/ipr/PeakHours" (some 2) with
  accessFlags := 49
  interfaces := #[]
  cf := some (fileOf pool3 8 #[.nestMembers #[115]] #[{ accessFlags := 1, nameIndex := 5, descriptorIndex := 75, attributes := #[] }, { accessFlags := 10, nameIndex := 11, descriptorIndex := 12, attributes := #[] }, { accessFlags := 1, nameIndex := 176, descriptorIndex := 177, attributes := #[] }] 49 2 #[] #[{ accessFlags := 18, nameIndex := 42, descriptorIndex := 43, attributes := #[] }, { accessFlags := 18, nameIndex := 46, descriptorIndex := 43, attributes := #[] }, { accessFlags := 26, nameIndex := 165, descriptorIndex := 43, attributes := #[] }, { accessFlags := 26, nameIndex := 49, descriptorIndex := 50, attributes := #[] }, { accessFlags := 26, nameIndex := 81, descriptorIndex := 82, attributes := #[] }])
  fields := #[{ name := "first", type := .int, accessFlags := 18, slot := 0, constantValue := 0 }, { name := "last", type := .int, accessFlags := 18, slot := 1, constantValue := 0 }, { name := "LAST_HOUR", type := .int, accessFlags := 26, slot := 0, constantValue := 0 }, { name := "NAME", type := (.object "java/util/regex/Pattern"), accessFlags := 26, slot := 1, constantValue := 0 }, { name := "WEIGHTINGS", type := (.object "java/util/List"), accessFlags := 26, slot := 2, constantValue := 0 }]
  methods := #[k3m0, k3m1, k3m2]
  instanceTypes := #[.int, .int]
  staticTypes := #[.int, (.object "java/util/regex/Pattern"), (.object "java/util/List")]
  resolved := Array.replicate 243 none
  statics := none }

def pool4 : Array CpInfo := pool [(1, u "java/lang/Cloneable"), (0, .class_ 1), (0, u "java/lang/Object"), (0, .class_ 3)] 3

/-- java/lang/Cloneable -/
def k4 : Class := { plain "java/lang/Cloneable" (some 0) with
  accessFlags := 1537
  interfaces := #[]
  cf := some (fileOf pool4 2 #[] #[] 1537 4 #[] #[])
  fields := #[]
  methods := #[]
  instanceTypes := #[]
  staticTypes := #[]
  resolved := Array.replicate 8 none
  statics := none }

def pool5 : Array CpInfo := pool [(1, u "java/io/Serializable"), (0, .class_ 1), (0, u "java/lang/Object"), (0, .class_ 3)] 3

/-- java/io/Serializable -/
def k5 : Class := { plain "java/io/Serializable" (some 0) with
  accessFlags := 1537
  interfaces := #[]
  cf := some (fileOf pool5 2 #[] #[] 1537 4 #[] #[])
  fields := #[]
  methods := #[]
  instanceTypes := #[]
  staticTypes := #[]
  resolved := Array.replicate 8 none
  statics := none }

/-- the primitive byte -/
def k6 : Class := { plain "byte" none with kind := .primitive 'B', accessFlags := 0x411 }
/-- [B -/
def k7 : Class := { plain "[B" (some 0) with kind := .array 6 .byte, interfaces := #[4, 5], accessFlags := 1041 }

def heap : Heap := #[]
def classes : Array Class := #[k0, k1, k2, k3, k4, k5, k6, k7]
def interned : List (Array UInt16 × Addr) := []
def slotsUsed : Nat := 0
def theMethod : MethodId := ⟨1, 1⟩
def args0 : Array Value := #[.int 5, .int 6, .int 7]
def aboutOver (below : List Frame) : State where
  vm := { classes := classes, interned := interned.toArray }
  heap := heap
  slotsUsed := slotsUsed
  threads := #[{ frames := .invoking theMethod args0 :: below }]
def below0 : List Frame := [.native { method := ⟨0, 0⟩, args := #[] }]
def about1 : State := aboutOver below0
def p0 : Program := .bare "" "" ""
def e0 : Env := launch0.env 0 0 0
theorem w_frames : about1.frames = Frame.invoking theMethod args0 :: below0 := rfl
set_option maxRecDepth 65536 in
theorem w_args : argsFit about1.vm theMethod args0 = true := by decide +kernel
set_option maxRecDepth 65536 in
theorem w_heap : heapFits about1 = true := by decide +kernel
set_option maxRecDepth 65536 in
theorem w_runnable : about1.curStatus? = some .runnable := by decide +kernel
set_option maxRecDepth 65536 in
theorem w_alone : about1.alone = true := by decide +kernel
set_option maxRecDepth 65536 in
theorem w_named : about1.methodNamed? x = some theMethod := by decide +kernel
set_option maxRecDepth 65536 in
theorem w_hears : about1.hears theMethod below0 = true := by decide +kernel
set_option maxRecDepth 65536 in
theorem w_ripe : about1.ripe theMethod args0 below0 = true := by decide +kernel
theorem w_running : about1.status = .running := rfl
set_option maxRecDepth 65536 in
theorem w_room : about1.hasRoom e0.platform room_1 = true :=
  launch0.hasRoom_least _ room_1 (by decide +kernel) (by decide +kernel) (by decide +kernel) (by decide +kernel) (by decide +kernel) (by decide +kernel)
theorem allAtoms_all (ts : List Jvm.Cond) (a : Array Jvm.Value) (st : Jvm.State) : (allAtoms ts).before a st = ts.all (fun c => c.before a st) := by
  induction ts with
  | nil => rfl
  | cons c t ih =>
    show (Jvm.Cond.and c (allAtoms t)).before a st = _
    rw [Jvm.Cond.before_and, ih, List.all_cons]
def words1 : List Jvm.Cond := Jvm.Cond.code x code maxLocals ret :: tables_1
/-- a 'code' word, met by the world's own term for the bytes: nothing is compared byte by byte -/
theorem code_word {y : MethodName} {bytes : ByteArray} {mx : Nat} {rt : Option FieldType} {a : Array Value} {s : State} {m : MethodId} {meth : Method} {c : Code} (h1 : s.methodNamed? y = some m) (h2 : s.vm.method? m = some meth) (h3 : meth.code = some c) (h4 : c.code = bytes)
    (h5 : (c.maxLocals == mx && c.exceptionTable.isEmpty && decide (c.maxStack ≤ mostOperands) && decide (meth.sig.returnType = rt) && !meth.locks && decide (parseMethodDescriptor y.desc = some meth.sig)) = true) : (Jvm.Cond.code y bytes mx rt).before a s = true := by
  simp only [Bool.and_eq_true, beq_iff_eq, Bool.not_eq_true', decide_eq_true_eq] at h5
  obtain ⟨⟨⟨⟨⟨g1, g2⟩, g3⟩, g4⟩, g5⟩, g6⟩ := h5
  simp [Cond.before, Cond.holds, Cond.value, h1, h2, h3, h4, g1, g2, g3, g4, g5, g6]
def isCode : Jvm.Cond → Bool
  | .code _ _ _ _ => true
  | _ => false
theorem all_split {L : List Jvm.Cond} {P : Jvm.Cond → Bool} (h1 : L.all (fun c => isCode c || P c) = true) (h2 : ∀ c ∈ L.filter isCode, P c = true) : L.all P = true := by
  refine List.all_eq_true.mpr fun c hc => ?_
  have h := List.all_eq_true.mp h1 c hc
  rcases Bool.eq_false_or_eq_true (isCode c) with hi | hi
  · exact h2 c (List.mem_filter.mpr ⟨hc, hi⟩)
  · simpa [hi] using h
set_option maxRecDepth 65536 in
theorem w_c0 : (Jvm.Cond.code x code maxLocals ret).before args0 about1 = true := code_word (m := ⟨1, 1⟩) (meth := k1m1) (c := k1c1) (by decide +kernel) rfl rfl rfl (by decide +kernel)
set_option maxRecDepth 65536 in
theorem w_c1 : (Jvm.Cond.code ({ cls := "com/example/capwright/capwright/ipr/PeakHours", name := "<init>", desc := "(II)V" } : Jvm.MethodName) prog_54_method_1_code (3 : Nat) (Option.none : Option Jvm.ClassFile.FieldType)).before args0 about1 = true := code_word (m := ⟨3, 0⟩) (meth := k3m0) (c := k3c0) (by decide +kernel) rfl rfl rfl (by decide +kernel)
set_option maxRecDepth 65536 in
theorem w_c2 : (Jvm.Cond.code ({ cls := "java/lang/Record", name := "<init>", desc := "()V" } : Jvm.MethodName) jdk_30_method_1_code (1 : Nat) (Option.none : Option Jvm.ClassFile.FieldType)).before args0 about1 = true := code_word (m := ⟨2, 0⟩) (meth := k2m0) (c := k2c0) (by decide +kernel) rfl rfl rfl (by decide +kernel)
set_option maxRecDepth 65536 in
theorem w_c3 : (Jvm.Cond.code ({ cls := "java/lang/Object", name := "<init>", desc := "()V" } : Jvm.MethodName) object_method_1_code (1 : Nat) (Option.none : Option Jvm.ClassFile.FieldType)).before args0 about1 = true := code_word (m := ⟨0, 0⟩) (meth := k0m0) (c := k0c0) (by decide +kernel) rfl rfl rfl (by decide +kernel)
set_option maxRecDepth 65536 in
theorem w_c4 : (Jvm.Cond.code ({ cls := "com/example/capwright/capwright/ipr/PeakHours", name := "isWindow", desc := "(II)Z" } : Jvm.MethodName) prog_54_method_3_code (2 : Nat) (Option.some Jvm.ClassFile.FieldType.boolean)).before args0 about1 = true := code_word (m := ⟨3, 1⟩) (meth := k3m1) (c := k3c1) (by decide +kernel) rfl rfl rfl (by decide +kernel)
set_option maxRecDepth 65536 in
theorem w_c5 : (Jvm.Cond.code ({ cls := "com/example/capwright/capwright/ipr/PeakHours", name := "count", desc := "()I" } : Jvm.MethodName) prog_54_method_4_code (1 : Nat) (Option.some Jvm.ClassFile.FieldType.int)).before args0 about1 = true := code_word (m := ⟨3, 2⟩) (meth := k3m2) (c := k3c2) (by decide +kernel) rfl rfl rfl (by decide +kernel)
def codes1 : List Jvm.Cond := [Jvm.Cond.code x code maxLocals ret, Jvm.Cond.code ({ cls := "com/example/capwright/capwright/ipr/PeakHours", name := "<init>", desc := "(II)V" } : Jvm.MethodName) prog_54_method_1_code (3 : Nat) (Option.none : Option Jvm.ClassFile.FieldType), Jvm.Cond.code ({ cls := "java/lang/Record", name := "<init>", desc := "()V" } : Jvm.MethodName) jdk_30_method_1_code (1 : Nat) (Option.none : Option Jvm.ClassFile.FieldType), Jvm.Cond.code ({ cls := "java/lang/Object", name := "<init>", desc := "()V" } : Jvm.MethodName) object_method_1_code (1 : Nat) (Option.none : Option Jvm.ClassFile.FieldType), Jvm.Cond.code ({ cls := "com/example/capwright/capwright/ipr/PeakHours", name := "isWindow", desc := "(II)Z" } : Jvm.MethodName) prog_54_method_3_code (2 : Nat) (Option.some Jvm.ClassFile.FieldType.boolean), Jvm.Cond.code ({ cls := "com/example/capwright/capwright/ipr/PeakHours", name := "count", desc := "()I" } : Jvm.MethodName) prog_54_method_4_code (1 : Nat) (Option.some Jvm.ClassFile.FieldType.int)]
set_option maxRecDepth 65536 in
theorem codes_eq : words1.filter isCode = codes1 := rfl
theorem w_codes : ∀ c ∈ words1.filter isCode, c.before args0 about1 = true := by
  rw [codes_eq]
  intro c hc
  simp only [codes1, List.mem_cons, List.not_mem_nil, or_false] at hc
  rcases hc with rfl | rfl | rfl | rfl | rfl | rfl
  · exact w_c0
  · exact w_c1
  · exact w_c2
  · exact w_c3
  · exact w_c4
  · exact w_c5
set_option maxRecDepth 65536 in
theorem w_t1 : (words1.take 24).all (fun c => isCode c || c.before args0 about1) = true := by decide +kernel
set_option maxRecDepth 65536 in
theorem w_t2 : (words1.drop 24).all (fun c => isCode c || c.before args0 about1) = true := by decide +kernel
theorem w_tables : (allAtoms (Jvm.Cond.code x code maxLocals ret :: tables_1)).before args0 about1 = true := by
  rw [allAtoms_all]
  show words1.all (fun c => c.before args0 about1) = true
  refine all_split ?_ w_codes
  rw [← List.take_append_drop 24 words1, List.all_append, w_t1, w_t2]
  rfl
set_option maxRecDepth 65536 in
theorem w_case : (Jvm.Cond.and given_1 narrow_1).before args0 about1 = true := by decide +kernel
theorem w_applies : (headSpec (Jvm.Cond.code x code maxLocals ret :: tables_1) room_1).applies x e0.platform about1 = true :=
  (Spec.applies_iff w_frames).mpr ⟨w_running, w_runnable, w_alone, w_named, w_hears, w_ripe, w_room, w_tables⟩
theorem atStart : AtStart classFile x code maxLocals ret World_1 tables_1 room_1 Calls_1 rest_1 Pre_1 launch0 p0 e0 about1 theMethod args0 below0 :=
  ⟨lists_1, trivial, launch0.admits_env _ _ _, launch0.least_env, fairChoices_fair.cas, fairChoices_fair.clock, w_frames, w_args, w_heap, w_applies, trivial, trivial, w_case⟩
end start1
theorem witness_1 : WitnessClaimed_1 := ⟨start1.p0, start1.e0, start1.about1, start1.theMethod, start1.args0, start1.below0, start1.atStart⟩
end Jvm.Pilot.@@N@@
