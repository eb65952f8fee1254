import JvmDerived
import JvmDerived.Pilot.@@N@@Statement
import JvmDerived.Pilot.@@N@@Code
set_option linter.unusedVariables false
set_option linter.unusedSimpArgs false
namespace Jvm.RoadKit
open Sem ClassFile Op Lib Jvm.Stand Jvm.Free Jvm.LawKit
section New
variable {p : Program} {l : Launch} {e : Env} {R : Room} {s : State} {m : MethodId} {args : Array Value} {below : List Frame} {meth : Method} {c : Code} {T : State} {locs : List Loc} {cells slots : Nat}
theorem retI (X : Stand p l e R s m args below meth c T locs cells slots) (hx : p.tables.exec = Jvm.exec) {pc : Nat} {Ls : Array Slot} {z : Int32} {rest : List Value} (hret : meth.sig.returnType = some .int) (hd : decode c.code pc = .ok (.ireturn, 1)) {fs : List Frame}
    (hl : ∀ (f : JFrame) (acts : List Action), f.method = m → f.locked = none → f.entered = [] → (doReturn e (T.setTop f) acts (some (.int z))).1 = T.setFrames fs) : Steps p.tables e below (T.setTop (mkF m pc Ls (.int z :: rest))) (T.setFrames fs) := by
  have hm' : T.vm.method? m = some meth := X.method'
  have hn : narrow .int (.int z) = .int z := rfl
  show Steps p.tables e below (T.setTop { method := m, pc := pc, locals := Ls, stack := _ :: rest, locked := none }) _
  jvm_step X.here [X.here.top, hx, hd, hm', hret, hn]
  first | (intro acts; rw [hl _ acts rfl rfl rfl]) | rw [hl _ _ rfl rfl rfl]
  exact Steps.refl _
theorem retJ (X : Stand p l e R s m args below meth c T locs cells slots) (hx : p.tables.exec = Jvm.exec) {pc : Nat} {Ls : Array Slot} {z : Int64} {rest : List Value} (hret : meth.sig.returnType = some .long) (hd : decode c.code pc = .ok (.lreturn, 1)) {fs : List Frame}
    (hl : ∀ (f : JFrame) (acts : List Action), f.method = m → f.locked = none → f.entered = [] → (doReturn e (T.setTop f) acts (some (.long z))).1 = T.setFrames fs) : Steps p.tables e below (T.setTop (mkF m pc Ls (.long z :: rest))) (T.setFrames fs) := by
  have hm' : T.vm.method? m = some meth := X.method'
  have hn : narrow .long (.long z) = .long z := rfl
  show Steps p.tables e below (T.setTop { method := m, pc := pc, locals := Ls, stack := _ :: rest, locked := none }) _
  jvm_step X.here [X.here.top, hx, hd, hm', hret, hn]
  first | (intro acts; rw [hl _ acts rfl rfl rfl]) | rw [hl _ _ rfl rfl rfl]
  exact Steps.refl _
theorem retD (X : Stand p l e R s m args below meth c T locs cells slots) (hx : p.tables.exec = Jvm.exec) {pc : Nat} {Ls : Array Slot} {z : UInt64} {rest : List Value} (hret : meth.sig.returnType = some .double) (hd : decode c.code pc = .ok (.dreturn, 1)) {fs : List Frame}
    (hl : ∀ (f : JFrame) (acts : List Action), f.method = m → f.locked = none → f.entered = [] → (doReturn e (T.setTop f) acts (some (.double z))).1 = T.setFrames fs) : Steps p.tables e below (T.setTop (mkF m pc Ls (.double z :: rest))) (T.setFrames fs) := by
  have hm' : T.vm.method? m = some meth := X.method'
  have hn : narrow .double (.double z) = .double z := rfl
  show Steps p.tables e below (T.setTop { method := m, pc := pc, locals := Ls, stack := _ :: rest, locked := none }) _
  jvm_step X.here [X.here.top, hx, hd, hm', hret, hn]
  first | (intro acts; rw [hl _ acts rfl rfl rfl]) | rw [hl _ _ rfl rfl rfl]
  exact Steps.refl _
end New
end Jvm.RoadKit
namespace Jvm.Pilot.@@N@@
open Jvm Jvm.ClassFile Sem Op Lib Jvm.Free Jvm.Stand Jvm.LawKit Jvm.RoadKit Bundle Jvm.Pilot.@@N@@.Jvm.D
theorem own_selp {s : State} {args : Array Value} {y : MethodName} {n : Nat} (wi : (Jvm.Cond.instantiable y.cls n).before args s = true) (hp : s.PrivateAt y) (hinst : (Jvm.Cond.instanceMethod y).before args s = true) (hy : y.cls ≠ "java/lang/invoke/MethodHandle" ∧ y.cls ≠ "java/lang/invoke/VarHandle") : (Jvm.Cond.selects y.cls y y).before args s = true := by
  obtain ⟨c, k, h1, h2, h3, h4, -⟩ := Cond.instantiable_spec wi
  exact selects_self_of_private h1 h2 (Bool.or_eq_false_iff.mp h4).1 hp hinst hy
/-- a hash's fields: v0, v1, v2, v3, word, length -/
abbrev SS := Int64 × Int64 × Int64 × Int64 × Int64 × Int32
def own_rot (x : Int64) (n : Int32) : Int64 := ((x <<< (n &&& 0x3f).toInt64) ||| ((x.toUInt64 >>> ((-n) &&& 0x3f).toInt64.toUInt64).toInt64))
def own_round (S : SS) : SS :=
  let b1 := own_rot S.2.1 13 ^^^ (S.1 + S.2.1)
  let b0 := own_rot (S.1 + S.2.1) 32
  let a2 := S.2.2.1 + S.2.2.2.1
  let b3 := own_rot S.2.2.2.1 16 ^^^ a2
  let c0 := b0 + b3
  let d3 := own_rot b3 21 ^^^ c0
  let c2 := a2 + b1
  (c0, own_rot b1 17 ^^^ c2, own_rot c2 32, d3, S.2.2.2.2.1, S.2.2.2.2.2)
def own_cp (S : SS) (q : Int64) : SS :=
  let R := own_round (S.1, S.2.1, S.2.2.1, S.2.2.2.1 ^^^ q, S.2.2.2.2.1, S.2.2.2.2.2)
  (R.1 ^^^ q, R.2.1, R.2.2.1, R.2.2.2.1, R.2.2.2.2.1, R.2.2.2.2.2)
def own_put (S : SS) (ch : Int32) : SS := (S.1, S.2.1, S.2.2.1, S.2.2.2.1, S.2.2.2.2.1 ||| (ch.toInt64 <<< (((16 : Int32) * (S.2.2.2.2.2 % (4 : Int32))) &&& 0x3f).toInt64), S.2.2.2.2.2 + (1 : Int32))
def own_wipe (S : SS) : SS := (S.1, S.2.1, S.2.2.1, S.2.2.2.1, 0, S.2.2.2.2.2)
def own_add (S : SS) (ch : Int32) : SS := if (own_put S ch).2.2.2.2.2 % (4 : Int32) = (0 : Int32) then own_wipe (own_cp (own_put S ch) (own_put S ch).2.2.2.2.1) else own_put S ch
def own_ff (S : SS) : SS := (S.1, S.2.1, S.2.2.1 ^^^ (255 : Int64), S.2.2.2.1, S.2.2.2.2.1, S.2.2.2.2.2)
def own_end (S : SS) : SS := own_round (own_round (own_round (own_ff (own_cp S (S.2.2.2.2.1 ||| (((S.2.2.2.2.2.toInt64) * (2 : Int64)) <<< ((56 : Int32) &&& 0x3f).toInt64))))))
def own_out (S : SS) : Int64 := ((S.1 ^^^ S.2.1) ^^^ S.2.2.1) ^^^ S.2.2.2.1
def own_start (k0 k1 : Int64) : SS := (k0 ^^^ (8317987319222330741 : Int64), k1 ^^^ (7237128888997146477 : Int64), k0 ^^^ (7816392313619706465 : Int64), k1 ^^^ (8387220255154660723 : Int64), 0, 0)
theorem own_add1 {S T U : SS} {ch : Int32} (hz : U.2.2.2.2.2 % (4 : Int32) = (0 : Int32)) (hp : own_put S ch = U) (q : T = own_cp U U.2.2.2.2.1) : own_wipe T = own_add S ch := by
  unfold own_add; rw [hp, if_pos hz, q]
theorem own_add0 {S U : SS} {ch : Int32} (hz : ¬ U.2.2.2.2.2 % (4 : Int32) = (0 : Int32)) (hp : own_put S ch = U) : U = own_add S ch := by
  unfold own_add; rw [hp, if_neg hz]
theorem own_end1 {S A B C1 D : SS} {w : Int64} (hw : w = S.2.2.2.2.1 ||| (((S.2.2.2.2.2.toInt64) * (2 : Int64)) <<< ((56 : Int32) &&& 0x3f).toInt64)) (q0 : A = own_cp S w) (q1 : B = own_round (own_ff A)) (q2 : C1 = own_round B) (q3 : D = own_round C1) : D = own_end S := by
  unfold own_end; rw [q3, q2, q1, q0, hw]

theorem d9_0 : decode jdk_35_method_51_code 0 = .ok (.lload_n 0, 1) := by decide +kernel
theorem d9_1 : decode jdk_35_method_51_code 1 = .ok (.iload_n 2, 1) := by decide +kernel
theorem d9_2 : decode jdk_35_method_51_code 2 = .ok (.lshl, 1) := by decide +kernel
theorem d9_3 : decode jdk_35_method_51_code 3 = .ok (.lload_n 0, 1) := by decide +kernel
theorem d9_4 : decode jdk_35_method_51_code 4 = .ok (.iload_n 2, 1) := by decide +kernel
theorem d9_5 : decode jdk_35_method_51_code 5 = .ok (.ineg, 1) := by decide +kernel
theorem d9_6 : decode jdk_35_method_51_code 6 = .ok (.lushr, 1) := by decide +kernel
theorem d9_7 : decode jdk_35_method_51_code 7 = .ok (.lor, 1) := by decide +kernel
theorem d9_8 : decode jdk_35_method_51_code 8 = .ok (.lreturn, 1) := by decide +kernel
theorem pn_9 : plainName "java/lang/Long" = true := by first | (simp [plainName, overriddenIn]; done) | decide +kernel
theorem ef_9_xx (m : MethodId) (x0 : Int64) (x1 : Int32) : entryFrame m #[(.long x0), (.int x1)] 3 = mkF m 0 #[.val (.long x0), .second, .val (.int x1)] [] := by first | (simp [entryFrame, mkF, argsToLocals, Value.category]; done) | rfl
def Q9 (Z : State) (q1 : Int64) (p2 : Int32) (h0 : Heap) (n0 : Nat) (v : Option Value) (h : Heap) (L : List Loc) : Prop := v = some (.long (own_rot q1 p2)) ∧ Fr n0 L ∧ h = h0
set_option maxRecDepth 65536 in
set_option maxHeartbeats 40000000 in
theorem rm9 (l : Launch) (Z : State) (a0 : Array Value) (hw : ∀ d ∈ tables_1, d.before a0 Z = true) (ws : List Jvm.Cond) (q1 : Int64) (p2 : Int32) (h0 : Heap) (n0 : Nat) (Z0 : n0 ≤ h0.size) :
    MetFree l (⟨"java/lang/Long", "rotateLeft", "(JI)J"⟩ : MethodName) (head1 (Jvm.Cond.code (⟨"java/lang/Long", "rotateLeft", "(JI)J"⟩ : MethodName) jdk_35_method_51_code 3 (some .long) :: ws) ({ frames := 0, cells := 0, slots := 0, locals := 0 } : Room)) (fun a U => a = #[(.long q1), (.int p2)] ∧ Z.Warmed39 U.vm ∧ U.heap = h0) (fun _ _ _ _ _ => True) (fun _ U o U' => ∃ v L, o = .returned v ∧ Q9 Z q1 p2 h0 n0 v U'.heap L ∧ FrameEnd U o U' L ({ frames := 0, cells := 0, slots := 0, locals := 0 } : Room).cells ({ frames := 0, cells := 0, slots := 0, locals := 0 } : Room).slots) := by
  refine MetFree.of_bodySF (plainFor_of_name pn_9) hisR ?_
  intro p e s m args below meth c s₁ Bd hml0 hP hK
  obtain ⟨rfl, hZ, hh⟩ := hP
  have hx := Bd.exec
  have hby := Bd.bytes
  have hml : c.maxLocals = 3 := hml0
  have hown : s.vm.findClass "java/lang/Long" = some m.cls := findClass_of_methodNamed Bd.named
  have hnm := (name_of_methodNamed Bd.named Bd.method).1
  have X0 : Stand p l e ({ frames := 0, cells := 0, slots := 0, locals := 0 } : Room) s m #[(.long q1), (.int p2)] below meth c s₁ [] 0 0 := Stand.of_body Bd
  have e0 : s₁.heap = h0 := by rw [← hh, Bd.state]; rfl
  have N0 := Fr.nil n0
  have pre0 : ∀ t, Steps p.tables e below (s₁.setTop (mkF m 0 #[.val (.long q1), .second, .val (.int p2)] [])) t → Steps p.tables e below (s₁.setTop (entryFrame m #[(.long q1), (.int p2)] 3)) t := fun t k => castTop (ef_9_xx m q1 p2) k
  have J1 : ∀ t, Steps p.tables e below (s₁.setTop (mkF m 8 #[.val (.long q1), .second, .val (.int p2)] [(.long ((q1 <<< (p2 &&& 0x3f).toInt64) ||| ((q1.toUInt64 >>> ((-p2) &&& 0x3f).toInt64.toUInt64).toInt64)))])) t → Steps p.tables e below (s₁.setTop (entryFrame m #[(.long q1), (.int p2)] 3)) t := fun t k => pre0 t (by
      show Steps p.tables e below (s₁.setTop (mkF m 0 #[.val (.long q1), .second, .val (.int p2)] [])) _
      refine XS.lloadN X0.here hx rfl (hb hby d9_0) rfl ?_
      show Steps p.tables e below (s₁.setTop (mkF m 1 #[.val (.long q1), .second, .val (.int p2)] [(.long q1)])) _
      refine XS.iloadN X0.here hx rfl (hb hby d9_1) rfl ?_
      show Steps p.tables e below (s₁.setTop (mkF m 2 #[.val (.long q1), .second, .val (.int p2)] [(.int p2), (.long q1)])) _
      refine XS.lshl X0.here hx rfl (hb hby d9_2) rfl ?_
      show Steps p.tables e below (s₁.setTop (mkF m 3 #[.val (.long q1), .second, .val (.int p2)] [(.long (q1 <<< (p2 &&& 0x3f).toInt64))])) _
      refine XS.lloadN X0.here hx rfl (hb hby d9_3) rfl ?_
      show Steps p.tables e below (s₁.setTop (mkF m 4 #[.val (.long q1), .second, .val (.int p2)] [(.long q1), (.long (q1 <<< (p2 &&& 0x3f).toInt64))])) _
      refine XS.iloadN X0.here hx rfl (hb hby d9_4) rfl ?_
      show Steps p.tables e below (s₁.setTop (mkF m 5 #[.val (.long q1), .second, .val (.int p2)] [(.int p2), (.long q1), (.long (q1 <<< (p2 &&& 0x3f).toInt64))])) _
      refine XS.ineg X0.here hx rfl (hb hby d9_5) rfl ?_
      show Steps p.tables e below (s₁.setTop (mkF m 6 #[.val (.long q1), .second, .val (.int p2)] [(.int (-p2)), (.long q1), (.long (q1 <<< (p2 &&& 0x3f).toInt64))])) _
      refine XS.lushr X0.here hx rfl (hb hby d9_6) rfl ?_
      show Steps p.tables e below (s₁.setTop (mkF m 7 #[.val (.long q1), .second, .val (.int p2)] [(.long ((q1.toUInt64 >>> ((-p2) &&& 0x3f).toInt64.toUInt64).toInt64)), (.long (q1 <<< (p2 &&& 0x3f).toInt64))])) _
      refine XS.lor X0.here hx rfl (hb hby d9_7) rfl ?_
      exact k)
  obtain ⟨fs, hr, hrun, hended, hW, hsame⟩ := X0.leave (v := some (.long ((q1 <<< (p2 &&& 0x3f).toInt64) ||| ((q1.toUInt64 >>> ((-p2) &&& 0x3f).toInt64.toUInt64).toInt64)))) (fun h => by rw [Bd.returns] at h; cases h)
  refine ⟨_, _, J1 _ ?_, hrun, hended, _, _, rfl, ?_, ⟨_, rfl⟩, hW, hsame.mono (by decide) (by decide)⟩
  · show Steps p.tables e below (s₁.setTop (mkF m 8 #[.val (.long q1), .second, .val (.int p2)] [(.long ((q1 <<< (p2 &&& 0x3f).toInt64) ||| ((q1.toUInt64 >>> ((-p2) &&& 0x3f).toInt64.toUInt64).toInt64)))])) _
    exact retJ X0 hx Bd.returns (hb hby d9_8) hr
  · show Q9 Z q1 p2 h0 n0 _ s₁.heap _
    rw [e0]
    exact ⟨rfl, N0, rfl⟩
theorem d1_0 : decode prog_76_method_1_code 0 = .ok (.aload_n 0, 1) := by decide +kernel
theorem d1_1 : decode prog_76_method_1_code 1 = .ok (.invokespecial 7, 3) := by decide +kernel
theorem d1_4 : decode prog_76_method_1_code 4 = .ok (.aload_n 0, 1) := by decide +kernel
theorem d1_5 : decode prog_76_method_1_code 5 = .ok (.lload_n 1, 1) := by decide +kernel
theorem d1_6 : decode prog_76_method_1_code 6 = .ok (.putfield 13, 3) := by decide +kernel
theorem d1_9 : decode prog_76_method_1_code 9 = .ok (.aload_n 0, 1) := by decide +kernel
theorem d1_10 : decode prog_76_method_1_code 10 = .ok (.lload_n 3, 1) := by decide +kernel
theorem d1_11 : decode prog_76_method_1_code 11 = .ok (.putfield 19, 3) := by decide +kernel
theorem d1_14 : decode prog_76_method_1_code 14 = .ok (.return_, 1) := by decide +kernel
theorem pn_1 : plainName "com/example/tranche/tranche/io/SipHash" = true := by first | (simp [plainName, overriddenIn]; done) | decide +kernel
theorem ef_1_xxx (m : MethodId) (x0 : Addr) (x1 : Int64) (x2 : Int64) : entryFrame m #[(.ref x0), (.long x1), (.long x2)] 5 = mkF m 0 #[.val (.ref x0), .val (.long x1), .second, .val (.long x2), .second] [] := by first | (simp [entryFrame, mkF, argsToLocals, Value.category]; done) | rfl
def Q1 (Z : State) (a1 : Addr) (k0 : Int64) (k1 : Int64) (u1 : Value) (u2 : Value) (x0 : Int64) (x1 : Int64) (x2 : Int64) (x3 : Int64) (x4 : Int64) (x5 : Int32) (h0 : Heap) (n0 : Nat) (v : Option Value) (h : Heap) (L : List Loc) : Prop := v = none ∧ Fr n0 L ∧ Keep h0 h [a1] ∧ (Exa Z h a1 "com/example/tranche/tranche/io/SipHash") ∧ (Fld Z h a1 "com/example/tranche/tranche/io/SipHash" "key0" "J" (.long k0)) ∧ (Fld Z h a1 "com/example/tranche/tranche/io/SipHash" "key1" "J" (.long k1)) ∧ (Fld Z h a1 "com/example/tranche/tranche/io/SipHash" "v0" "J" (.long x0)) ∧ (Fld Z h a1 "com/example/tranche/tranche/io/SipHash" "v1" "J" (.long x1)) ∧ (Fld Z h a1 "com/example/tranche/tranche/io/SipHash" "v2" "J" (.long x2)) ∧ (Fld Z h a1 "com/example/tranche/tranche/io/SipHash" "v3" "J" (.long x3)) ∧ (Fld Z h a1 "com/example/tranche/tranche/io/SipHash" "word" "J" (.long x4)) ∧ (Fld Z h a1 "com/example/tranche/tranche/io/SipHash" "length" "I" (.int x5))
set_option maxRecDepth 65536 in
set_option maxHeartbeats 40000000 in
theorem rm1 (l : Launch) (Z : State) (a0 : Array Value) (hw : ∀ d ∈ tables_1, d.before a0 Z = true) (ws : List Jvm.Cond) (a1 : Addr) (k0 : Int64) (k1 : Int64) (u1 : Value) (u2 : Value) (x0 : Int64) (x1 : Int64) (x2 : Int64) (x3 : Int64) (x4 : Int64) (x5 : Int32) (h0 : Heap) (n0 : Nat) (Z0 : n0 ≤ h0.size) (E_a1 : Exa Z h0 a1 "com/example/tranche/tranche/io/SipHash") (g_a1 : n0 ≤ a1) (F_key0_a1 : Fld Z h0 a1 "com/example/tranche/tranche/io/SipHash" "key0" "J" u1) (F_key1_a1 : Fld Z h0 a1 "com/example/tranche/tranche/io/SipHash" "key1" "J" u2) (F_v0_a1 : Fld Z h0 a1 "com/example/tranche/tranche/io/SipHash" "v0" "J" (.long x0)) (F_v1_a1 : Fld Z h0 a1 "com/example/tranche/tranche/io/SipHash" "v1" "J" (.long x1)) (F_v2_a1 : Fld Z h0 a1 "com/example/tranche/tranche/io/SipHash" "v2" "J" (.long x2)) (F_v3_a1 : Fld Z h0 a1 "com/example/tranche/tranche/io/SipHash" "v3" "J" (.long x3)) (F_word_a1 : Fld Z h0 a1 "com/example/tranche/tranche/io/SipHash" "word" "J" (.long x4)) (F_length_a1 : Fld Z h0 a1 "com/example/tranche/tranche/io/SipHash" "length" "I" (.int x5)) :
    MetFree l (⟨"com/example/tranche/tranche/io/SipHash", "<init>", "(JJ)V"⟩ : MethodName) (head1 (Jvm.Cond.code (⟨"com/example/tranche/tranche/io/SipHash", "<init>", "(JJ)V"⟩ : MethodName) prog_76_method_1_code 5 none :: ws) ({ frames := 1, cells := 0, slots := 0, locals := 12 } : Room)) (fun a U => a = #[(.ref a1), (.long k0), (.long k1)] ∧ Z.Warmed39 U.vm ∧ U.heap = h0) (fun _ _ _ _ _ => True) (fun _ U o U' => ∃ v L, o = .returned v ∧ Q1 Z a1 k0 k1 u1 u2 x0 x1 x2 x3 x4 x5 h0 n0 v U'.heap L ∧ FrameEnd U o U' L ({ frames := 1, cells := 0, slots := 0, locals := 12 } : Room).cells ({ frames := 1, cells := 0, slots := 0, locals := 12 } : Room).slots) := by
  refine MetFree.of_bodySF (plainFor_of_name pn_1) hisR ?_
  intro p e s m args below meth c s₁ Bd hml0 hP hK
  obtain ⟨rfl, hZ, hh⟩ := hP
  have hx := Bd.exec
  have hby := Bd.bytes
  have hml : c.maxLocals = 5 := hml0
  have hown : s.vm.findClass "com/example/tranche/tranche/io/SipHash" = some m.cls := findClass_of_methodNamed Bd.named
  have hnm := (name_of_methodNamed Bd.named Bd.method).1
  have X0 : Stand p l e ({ frames := 1, cells := 0, slots := 0, locals := 12 } : Room) s m #[(.ref a1), (.long k0), (.long k1)] below meth c s₁ [] 0 0 := Stand.of_body Bd
  have e0 : s₁.heap = h0 := by rw [← hh, Bd.state]; rfl
  have N0 := Fr.nil n0
  have pre0 : ∀ t, Steps p.tables e below (s₁.setTop (mkF m 0 #[.val (.ref a1), .val (.long k0), .second, .val (.long k1), .second] [])) t → Steps p.tables e below (s₁.setTop (entryFrame m #[(.ref a1), (.long k0), (.long k1)] 5)) t := fun t k => castTop (ef_1_xxx m a1 k0 k1) k
  have J1 : ∀ t, Steps p.tables e below (s₁.setTop (mkF m 1 #[.val (.ref a1), .val (.long k0), .second, .val (.long k1), .second] [(.ref a1)])) t → Steps p.tables e below (s₁.setTop (entryFrame m #[(.ref a1), (.long k0), (.long k1)] 5)) t := fun t k => pre0 t (by
      show Steps p.tables e below (s₁.setTop (mkF m 0 #[.val (.ref a1), .val (.long k0), .second, .val (.long k1), .second] [])) _
      refine XS.aloadN X0.here hx rfl (hb hby d1_0) rfl rfl ?_
      exact k)
  obtain ⟨T2, X2, e2, st2⟩ := initO X0 hx hZ hown (hw _ (List.mem_of_getElem? (i := 7) rfl)) (hw _ (List.mem_of_getElem? (i := 8) rfl)) (hw _ (List.mem_of_getElem? (i := 9) rfl)) e0 (g := (mkF m 1 #[.val (.ref a1), .val (.long k0), .second, .val (.long k1), .second] [(.ref a1)])) rfl (by rw [hml]; rfl) rfl (hb hby d1_1) (by decide) (W := 0) (by show 2 * 0 + _ ≤ _; exact Nat.le_of_eq rfl) (by decide)
  have J3 : ∀ t, Steps p.tables e below (T2.setTop (mkF m 4 #[.val (.ref a1), .val (.long k0), .second, .val (.long k1), .second] [])) t → Steps p.tables e below (s₁.setTop (entryFrame m #[(.ref a1), (.long k0), (.long k1)] 5)) t := fun t k => J1 t (st2 t k)
  have J4 : ∀ t, Steps p.tables e below (T2.setTop (mkF m 6 #[.val (.ref a1), .val (.long k0), .second, .val (.long k1), .second] [(.long k0), (.ref a1)])) t → Steps p.tables e below (s₁.setTop (entryFrame m #[(.ref a1), (.long k0), (.long k1)] 5)) t := fun t k => J3 t (by
      show Steps p.tables e below (T2.setTop (mkF m 4 #[.val (.ref a1), .val (.long k0), .second, .val (.long k1), .second] [])) _
      refine XS.aloadN X2.here hx rfl (hb hby d1_4) rfl rfl ?_
      show Steps p.tables e below (T2.setTop (mkF m 5 #[.val (.ref a1), .val (.long k0), .second, .val (.long k1), .second] [(.ref a1)])) _
      refine XS.lloadN X2.here hx rfl (hb hby d1_5) rfl ?_
      exact k)
  obtain ⟨T5, h5, X5, e5, W5, st5⟩ := putF X2 hx hZ hown (host := "") (Or.inl (hw _ (List.mem_of_getElem? (i := 10) rfl))) Via.refl e2 F_key0_a1 E_a1 (Or.inr ⟨(hw _ (List.mem_of_getElem? (i := 11) rfl)), rfl, hnm⟩) (hw _ (List.mem_of_getElem? (i := 2) rfl)) (ty := .long) (by decide) rfl rfl (g := (mkF m 6 #[.val (.ref a1), .val (.long k0), .second, .val (.long k1), .second] [(.long k0), (.ref a1)])) rfl rfl (hb hby d1_6)
  have J6 : ∀ t, Steps p.tables e below (T5.setTop (mkF m 9 #[.val (.ref a1), .val (.long k0), .second, .val (.long k1), .second] [])) t → Steps p.tables e below (s₁.setTop (entryFrame m #[(.ref a1), (.long k0), (.long k1)] 5)) t := fun t k => J4 t (st5 t k)
  have Z7 : n0 ≤ h5.size := Nat.le_trans Z0 (Keep.of_wr W5).1
  have KK8 : Keep h0 h5 [a1] := (Keep.refl h0 [a1]).wr W5 (Or.inl (List.mem_of_getElem? (i := 0) rfl))
  have N9 := Fr.snoc X5 N0 g_a1
  have Fw5 := F_key0_a1.same W5
  have J10 : ∀ t, Steps p.tables e below (T5.setTop (mkF m 11 #[.val (.ref a1), .val (.long k0), .second, .val (.long k1), .second] [(.long k1), (.ref a1)])) t → Steps p.tables e below (s₁.setTop (entryFrame m #[(.ref a1), (.long k0), (.long k1)] 5)) t := fun t k => J6 t (by
      show Steps p.tables e below (T5.setTop (mkF m 9 #[.val (.ref a1), .val (.long k0), .second, .val (.long k1), .second] [])) _
      refine XS.aloadN X5.here hx rfl (hb hby d1_9) rfl rfl ?_
      show Steps p.tables e below (T5.setTop (mkF m 10 #[.val (.ref a1), .val (.long k0), .second, .val (.long k1), .second] [(.ref a1)])) _
      refine XS.lloadN X5.here hx rfl (hb hby d1_10) rfl ?_
      exact k)
  have f11 := F_key1_a1.other W5 (Or.inr (slot_ne (Or.inr (hw _ (List.mem_of_getElem? (i := 13) rfl))) (Or.inr (hw _ (List.mem_of_getElem? (i := 11) rfl))) (by decide) (t := .long) (t' := .long) (by decide) (by decide)))
  have f12 := E_a1.wr W5
  obtain ⟨T13, h13, X13, e13, W13, st13⟩ := putF X5 hx hZ hown (host := "") (Or.inl (hw _ (List.mem_of_getElem? (i := 12) rfl))) Via.refl e5 f11 f12 (Or.inr ⟨(hw _ (List.mem_of_getElem? (i := 13) rfl)), rfl, hnm⟩) (hw _ (List.mem_of_getElem? (i := 2) rfl)) (ty := .long) (by decide) rfl rfl (g := (mkF m 11 #[.val (.ref a1), .val (.long k0), .second, .val (.long k1), .second] [(.long k1), (.ref a1)])) rfl rfl (hb hby d1_11)
  have J14 : ∀ t, Steps p.tables e below (T13.setTop (mkF m 14 #[.val (.ref a1), .val (.long k0), .second, .val (.long k1), .second] [])) t → Steps p.tables e below (s₁.setTop (entryFrame m #[(.ref a1), (.long k0), (.long k1)] 5)) t := fun t k => J10 t (st13 t k)
  have Z15 : n0 ≤ h13.size := Nat.le_trans Z7 (Keep.of_wr W13).1
  have KK16 : Keep h0 h13 [a1] := KK8.wr W13 (Or.inl (List.mem_of_getElem? (i := 0) rfl))
  have N17 := Fr.snoc X13 N9 g_a1
  have Fw13 := f11.same W13
  obtain ⟨fs, hr, hrun, hended, hW, hsame⟩ := X13.leave (v := none) (fun _ => rfl)
  have f18 := f12.wr W13
  have f19 := Fw5.other W13 (Or.inr (slot_ne (Or.inr (hw _ (List.mem_of_getElem? (i := 11) rfl))) (Or.inr (hw _ (List.mem_of_getElem? (i := 13) rfl))) (by decide) (t := .long) (t' := .long) (by decide) (by decide)))
  have f20 := F_v0_a1.other W5 (Or.inr (slot_ne (Or.inl (hw _ (List.mem_of_getElem? (i := 21) rfl))) (Or.inr (hw _ (List.mem_of_getElem? (i := 11) rfl))) (by decide) (t := .long) (t' := .long) (by decide) (by decide)))
  have f21 := f20.other W13 (Or.inr (slot_ne (Or.inl (hw _ (List.mem_of_getElem? (i := 21) rfl))) (Or.inr (hw _ (List.mem_of_getElem? (i := 13) rfl))) (by decide) (t := .long) (t' := .long) (by decide) (by decide)))
  have f22 := F_v1_a1.other W5 (Or.inr (slot_ne (Or.inl (hw _ (List.mem_of_getElem? (i := 24) rfl))) (Or.inr (hw _ (List.mem_of_getElem? (i := 11) rfl))) (by decide) (t := .long) (t' := .long) (by decide) (by decide)))
  have f23 := f22.other W13 (Or.inr (slot_ne (Or.inl (hw _ (List.mem_of_getElem? (i := 24) rfl))) (Or.inr (hw _ (List.mem_of_getElem? (i := 13) rfl))) (by decide) (t := .long) (t' := .long) (by decide) (by decide)))
  have f24 := F_v2_a1.other W5 (Or.inr (slot_ne (Or.inl (hw _ (List.mem_of_getElem? (i := 27) rfl))) (Or.inr (hw _ (List.mem_of_getElem? (i := 11) rfl))) (by decide) (t := .long) (t' := .long) (by decide) (by decide)))
  have f25 := f24.other W13 (Or.inr (slot_ne (Or.inl (hw _ (List.mem_of_getElem? (i := 27) rfl))) (Or.inr (hw _ (List.mem_of_getElem? (i := 13) rfl))) (by decide) (t := .long) (t' := .long) (by decide) (by decide)))
  have f26 := F_v3_a1.other W5 (Or.inr (slot_ne (Or.inl (hw _ (List.mem_of_getElem? (i := 30) rfl))) (Or.inr (hw _ (List.mem_of_getElem? (i := 11) rfl))) (by decide) (t := .long) (t' := .long) (by decide) (by decide)))
  have f27 := f26.other W13 (Or.inr (slot_ne (Or.inl (hw _ (List.mem_of_getElem? (i := 30) rfl))) (Or.inr (hw _ (List.mem_of_getElem? (i := 13) rfl))) (by decide) (t := .long) (t' := .long) (by decide) (by decide)))
  have f28 := F_word_a1.other W5 (Or.inr (slot_ne (Or.inl (hw _ (List.mem_of_getElem? (i := 32) rfl))) (Or.inr (hw _ (List.mem_of_getElem? (i := 11) rfl))) (by decide) (t := .long) (t' := .long) (by decide) (by decide)))
  have f29 := f28.other W13 (Or.inr (slot_ne (Or.inl (hw _ (List.mem_of_getElem? (i := 32) rfl))) (Or.inr (hw _ (List.mem_of_getElem? (i := 13) rfl))) (by decide) (t := .long) (t' := .long) (by decide) (by decide)))
  have f30 := F_length_a1.other W5 (Or.inr (slot_ne (Or.inl (hw _ (List.mem_of_getElem? (i := 34) rfl))) (Or.inr (hw _ (List.mem_of_getElem? (i := 11) rfl))) (by decide) (t := .int) (t' := .long) (by decide) (by decide)))
  have f31 := f30.other W13 (Or.inr (slot_ne (Or.inl (hw _ (List.mem_of_getElem? (i := 34) rfl))) (Or.inr (hw _ (List.mem_of_getElem? (i := 13) rfl))) (by decide) (t := .int) (t' := .long) (by decide) (by decide)))
  refine ⟨_, _, J14 _ ?_, hrun, hended, _, _, rfl, ?_, ⟨_, rfl⟩, hW, hsame.mono (by decide) (by decide)⟩
  · show Steps p.tables e below (T13.setTop (mkF m 14 #[.val (.ref a1), .val (.long k0), .second, .val (.long k1), .second] [])) _
    exact X13.returnOut hx Bd.returns (hb hby d1_14) hr
  · show Q1 Z a1 k0 k1 u1 u2 x0 x1 x2 x3 x4 x5 h0 n0 _ T13.heap _
    rw [e13]
    exact ⟨rfl, N17, KK16, f18, f19, Fw13, f21, f23, f25, f27, f29, f31⟩
theorem d3_0 : decode prog_76_method_2_code 0 = .ok (.aload_n 0, 1) := by decide +kernel
theorem d3_1 : decode prog_76_method_2_code 1 = .ok (.aload_n 0, 1) := by decide +kernel
theorem d3_2 : decode prog_76_method_2_code 2 = .ok (.getfield 13, 3) := by decide +kernel
theorem d3_5 : decode prog_76_method_2_code 5 = .ok (.ldc2_w 22, 3) := by decide +kernel
theorem d3_8 : decode prog_76_method_2_code 8 = .ok (.lxor, 1) := by decide +kernel
theorem d3_9 : decode prog_76_method_2_code 9 = .ok (.putfield 24, 3) := by decide +kernel
theorem d3_12 : decode prog_76_method_2_code 12 = .ok (.aload_n 0, 1) := by decide +kernel
theorem d3_13 : decode prog_76_method_2_code 13 = .ok (.aload_n 0, 1) := by decide +kernel
theorem d3_14 : decode prog_76_method_2_code 14 = .ok (.getfield 19, 3) := by decide +kernel
theorem d3_17 : decode prog_76_method_2_code 17 = .ok (.ldc2_w 27, 3) := by decide +kernel
theorem d3_20 : decode prog_76_method_2_code 20 = .ok (.lxor, 1) := by decide +kernel
theorem d3_21 : decode prog_76_method_2_code 21 = .ok (.putfield 29, 3) := by decide +kernel
theorem d3_24 : decode prog_76_method_2_code 24 = .ok (.aload_n 0, 1) := by decide +kernel
theorem d3_25 : decode prog_76_method_2_code 25 = .ok (.aload_n 0, 1) := by decide +kernel
theorem d3_26 : decode prog_76_method_2_code 26 = .ok (.getfield 13, 3) := by decide +kernel
theorem d3_29 : decode prog_76_method_2_code 29 = .ok (.ldc2_w 32, 3) := by decide +kernel
theorem d3_32 : decode prog_76_method_2_code 32 = .ok (.lxor, 1) := by decide +kernel
theorem d3_33 : decode prog_76_method_2_code 33 = .ok (.putfield 34, 3) := by decide +kernel
theorem d3_36 : decode prog_76_method_2_code 36 = .ok (.aload_n 0, 1) := by decide +kernel
theorem d3_37 : decode prog_76_method_2_code 37 = .ok (.aload_n 0, 1) := by decide +kernel
theorem d3_38 : decode prog_76_method_2_code 38 = .ok (.getfield 19, 3) := by decide +kernel
theorem d3_41 : decode prog_76_method_2_code 41 = .ok (.ldc2_w 37, 3) := by decide +kernel
theorem d3_44 : decode prog_76_method_2_code 44 = .ok (.lxor, 1) := by decide +kernel
theorem d3_45 : decode prog_76_method_2_code 45 = .ok (.putfield 39, 3) := by decide +kernel
theorem d3_48 : decode prog_76_method_2_code 48 = .ok (.aload_n 0, 1) := by decide +kernel
theorem d3_49 : decode prog_76_method_2_code 49 = .ok (.lconst 0, 1) := by decide +kernel
theorem d3_50 : decode prog_76_method_2_code 50 = .ok (.putfield 42, 3) := by decide +kernel
theorem d3_53 : decode prog_76_method_2_code 53 = .ok (.aload_n 0, 1) := by decide +kernel
theorem d3_54 : decode prog_76_method_2_code 54 = .ok (.iconst 0, 1) := by decide +kernel
theorem d3_55 : decode prog_76_method_2_code 55 = .ok (.putfield 45, 3) := by decide +kernel
theorem d3_58 : decode prog_76_method_2_code 58 = .ok (.return_, 1) := by decide +kernel
theorem pn_3 : plainName "com/example/tranche/tranche/io/SipHash" = true := by first | (simp [plainName, overriddenIn]; done) | decide +kernel
theorem ef_3_x (m : MethodId) (x0 : Addr) : entryFrame m #[(.ref x0)] 1 = mkF m 0 #[.val (.ref x0)] [] := by first | (simp [entryFrame, mkF, argsToLocals, Value.category]; done) | rfl
def Q3 (Z : State) (a1 : Addr) (k0 : Int64) (k1 : Int64) (x0 : Int64) (x1 : Int64) (x2 : Int64) (x3 : Int64) (x4 : Int64) (x5 : Int32) (h0 : Heap) (n0 : Nat) (v : Option Value) (h : Heap) (L : List Loc) : Prop := ∃ (z0 : Int64) (z1 : Int64) (z2 : Int64) (z3 : Int64) (z4 : Int64) (z5 : Int32), v = none ∧ Fr n0 L ∧ Keep h0 h [a1] ∧ (Exa Z h a1 "com/example/tranche/tranche/io/SipHash") ∧ (Fld Z h a1 "com/example/tranche/tranche/io/SipHash" "key0" "J" (.long k0)) ∧ (Fld Z h a1 "com/example/tranche/tranche/io/SipHash" "key1" "J" (.long k1)) ∧ (Fld Z h a1 "com/example/tranche/tranche/io/SipHash" "v0" "J" (.long z0)) ∧ (Fld Z h a1 "com/example/tranche/tranche/io/SipHash" "v1" "J" (.long z1)) ∧ (Fld Z h a1 "com/example/tranche/tranche/io/SipHash" "v2" "J" (.long z2)) ∧ (Fld Z h a1 "com/example/tranche/tranche/io/SipHash" "v3" "J" (.long z3)) ∧ (Fld Z h a1 "com/example/tranche/tranche/io/SipHash" "word" "J" (.long z4)) ∧ (Fld Z h a1 "com/example/tranche/tranche/io/SipHash" "length" "I" (.int z5)) ∧ (((z0, z1, z2, z3, z4, z5) : SS) = own_start k0 k1)
set_option maxRecDepth 65536 in
set_option maxHeartbeats 40000000 in
theorem rm3 (l : Launch) (Z : State) (a0 : Array Value) (hw : ∀ d ∈ tables_1, d.before a0 Z = true) (ws : List Jvm.Cond) (a1 : Addr) (k0 : Int64) (k1 : Int64) (x0 : Int64) (x1 : Int64) (x2 : Int64) (x3 : Int64) (x4 : Int64) (x5 : Int32) (h0 : Heap) (n0 : Nat) (Z0 : n0 ≤ h0.size) (E_a1 : Exa Z h0 a1 "com/example/tranche/tranche/io/SipHash") (g_a1 : n0 ≤ a1) (F_key0_a1 : Fld Z h0 a1 "com/example/tranche/tranche/io/SipHash" "key0" "J" (.long k0)) (F_key1_a1 : Fld Z h0 a1 "com/example/tranche/tranche/io/SipHash" "key1" "J" (.long k1)) (F_v0_a1 : Fld Z h0 a1 "com/example/tranche/tranche/io/SipHash" "v0" "J" (.long x0)) (F_v1_a1 : Fld Z h0 a1 "com/example/tranche/tranche/io/SipHash" "v1" "J" (.long x1)) (F_v2_a1 : Fld Z h0 a1 "com/example/tranche/tranche/io/SipHash" "v2" "J" (.long x2)) (F_v3_a1 : Fld Z h0 a1 "com/example/tranche/tranche/io/SipHash" "v3" "J" (.long x3)) (F_word_a1 : Fld Z h0 a1 "com/example/tranche/tranche/io/SipHash" "word" "J" (.long x4)) (F_length_a1 : Fld Z h0 a1 "com/example/tranche/tranche/io/SipHash" "length" "I" (.int x5)) :
    MetFree l (⟨"com/example/tranche/tranche/io/SipHash", "start", "()V"⟩ : MethodName) (head1 (Jvm.Cond.code (⟨"com/example/tranche/tranche/io/SipHash", "start", "()V"⟩ : MethodName) prog_76_method_2_code 1 none :: ws) ({ frames := 0, cells := 0, slots := 0, locals := 0 } : Room)) (fun a U => a = #[(.ref a1)] ∧ Z.Warmed39 U.vm ∧ U.heap = h0) (fun _ _ _ _ _ => True) (fun _ U o U' => ∃ v L, o = .returned v ∧ Q3 Z a1 k0 k1 x0 x1 x2 x3 x4 x5 h0 n0 v U'.heap L ∧ FrameEnd U o U' L ({ frames := 0, cells := 0, slots := 0, locals := 0 } : Room).cells ({ frames := 0, cells := 0, slots := 0, locals := 0 } : Room).slots) := by
  refine MetFree.of_bodySF (plainFor_of_name pn_3) hisR ?_
  intro p e s m args below meth c s₁ Bd hml0 hP hK
  obtain ⟨rfl, hZ, hh⟩ := hP
  have hx := Bd.exec
  have hby := Bd.bytes
  have hml : c.maxLocals = 1 := hml0
  have hown : s.vm.findClass "com/example/tranche/tranche/io/SipHash" = some m.cls := findClass_of_methodNamed Bd.named
  have hnm := (name_of_methodNamed Bd.named Bd.method).1
  have X0 : Stand p l e ({ frames := 0, cells := 0, slots := 0, locals := 0 } : Room) s m #[(.ref a1)] below meth c s₁ [] 0 0 := Stand.of_body Bd
  have e0 : s₁.heap = h0 := by rw [← hh, Bd.state]; rfl
  have N0 := Fr.nil n0
  have pre0 : ∀ t, Steps p.tables e below (s₁.setTop (mkF m 0 #[.val (.ref a1)] [])) t → Steps p.tables e below (s₁.setTop (entryFrame m #[(.ref a1)] 1)) t := fun t k => castTop (ef_3_x m a1) k
  have J1 : ∀ t, Steps p.tables e below (s₁.setTop (mkF m 2 #[.val (.ref a1)] [(.ref a1), (.ref a1)])) t → Steps p.tables e below (s₁.setTop (entryFrame m #[(.ref a1)] 1)) t := fun t k => pre0 t (by
      show Steps p.tables e below (s₁.setTop (mkF m 0 #[.val (.ref a1)] [])) _
      refine XS.aloadN X0.here hx rfl (hb hby d3_0) rfl rfl ?_
      show Steps p.tables e below (s₁.setTop (mkF m 1 #[.val (.ref a1)] [(.ref a1)])) _
      refine XS.aloadN X0.here hx rfl (hb hby d3_1) rfl rfl ?_
      exact k)
  obtain ⟨T2, X2, e2, st2⟩ := getF X0 hx hZ hown (host := "") (Or.inl (hw _ (List.mem_of_getElem? (i := 10) rfl))) Via.refl e0 F_key0_a1 (g := (mkF m 2 #[.val (.ref a1)] [(.ref a1), (.ref a1)])) rfl rfl (hb hby d3_2)
  have J3 : ∀ t, Steps p.tables e below (T2.setTop (mkF m 5 #[.val (.ref a1)] [(.long k0), (.ref a1)])) t → Steps p.tables e below (s₁.setTop (entryFrame m #[(.ref a1)] 1)) t := fun t k => J1 t (st2 t k)
  have J4 : ∀ t, Steps p.tables e below (T2.setTop (mkF m 9 #[.val (.ref a1)] [(.long (k0 ^^^ (8317987319222330741 : Int64))), (.ref a1)])) t → Steps p.tables e below (s₁.setTop (entryFrame m #[(.ref a1)] 1)) t := fun t k => J3 t (by
      show Steps p.tables e below (T2.setTop (mkF m 5 #[.val (.ref a1)] [(.long k0), (.ref a1)])) _
      refine X2.ldc2Long hx hown (mvT hZ (hw _ (List.mem_of_getElem? (i := 19) rfl))) (g := (mkF m 5 #[.val (.ref a1)] [(.long k0), (.ref a1)])) rfl (hb hby d3_5) _ ?_
      show Steps p.tables e below (T2.setTop (mkF m 8 #[.val (.ref a1)] [(.long (8317987319222330741 : Int64)), (.long k0), (.ref a1)])) _
      refine XS.lxor X2.here hx rfl (hb hby d3_8) rfl ?_
      exact k)
  obtain ⟨T5, h5, X5, e5, W5, st5⟩ := putF X2 hx hZ hown (host := "") (Or.inl (hw _ (List.mem_of_getElem? (i := 20) rfl))) Via.refl e2 F_v0_a1 E_a1 (Or.inl (hw _ (List.mem_of_getElem? (i := 21) rfl))) (hw _ (List.mem_of_getElem? (i := 2) rfl)) (ty := .long) (by decide) rfl rfl (g := (mkF m 9 #[.val (.ref a1)] [(.long (k0 ^^^ (8317987319222330741 : Int64))), (.ref a1)])) rfl rfl (hb hby d3_9)
  have J6 : ∀ t, Steps p.tables e below (T5.setTop (mkF m 12 #[.val (.ref a1)] [])) t → Steps p.tables e below (s₁.setTop (entryFrame m #[(.ref a1)] 1)) t := fun t k => J4 t (st5 t k)
  have Z7 : n0 ≤ h5.size := Nat.le_trans Z0 (Keep.of_wr W5).1
  have KK8 : Keep h0 h5 [a1] := (Keep.refl h0 [a1]).wr W5 (Or.inl (List.mem_of_getElem? (i := 0) rfl))
  have N9 := Fr.snoc X5 N0 g_a1
  have Fw5 := F_v0_a1.same W5
  have J10 : ∀ t, Steps p.tables e below (T5.setTop (mkF m 14 #[.val (.ref a1)] [(.ref a1), (.ref a1)])) t → Steps p.tables e below (s₁.setTop (entryFrame m #[(.ref a1)] 1)) t := fun t k => J6 t (by
      show Steps p.tables e below (T5.setTop (mkF m 12 #[.val (.ref a1)] [])) _
      refine XS.aloadN X5.here hx rfl (hb hby d3_12) rfl rfl ?_
      show Steps p.tables e below (T5.setTop (mkF m 13 #[.val (.ref a1)] [(.ref a1)])) _
      refine XS.aloadN X5.here hx rfl (hb hby d3_13) rfl rfl ?_
      exact k)
  have f11 := F_key1_a1.other W5 (Or.inr (slot_ne (Or.inr (hw _ (List.mem_of_getElem? (i := 13) rfl))) (Or.inl (hw _ (List.mem_of_getElem? (i := 21) rfl))) (by decide) (t := .long) (t' := .long) (by decide) (by decide)))
  obtain ⟨T12, X12, e12, st12⟩ := getF X5 hx hZ hown (host := "") (Or.inl (hw _ (List.mem_of_getElem? (i := 12) rfl))) Via.refl e5 f11 (g := (mkF m 14 #[.val (.ref a1)] [(.ref a1), (.ref a1)])) rfl rfl (hb hby d3_14)
  have J13 : ∀ t, Steps p.tables e below (T12.setTop (mkF m 17 #[.val (.ref a1)] [(.long k1), (.ref a1)])) t → Steps p.tables e below (s₁.setTop (entryFrame m #[(.ref a1)] 1)) t := fun t k => J10 t (st12 t k)
  have J14 : ∀ t, Steps p.tables e below (T12.setTop (mkF m 21 #[.val (.ref a1)] [(.long (k1 ^^^ (7237128888997146477 : Int64))), (.ref a1)])) t → Steps p.tables e below (s₁.setTop (entryFrame m #[(.ref a1)] 1)) t := fun t k => J13 t (by
      show Steps p.tables e below (T12.setTop (mkF m 17 #[.val (.ref a1)] [(.long k1), (.ref a1)])) _
      refine X12.ldc2Long hx hown (mvT hZ (hw _ (List.mem_of_getElem? (i := 22) rfl))) (g := (mkF m 17 #[.val (.ref a1)] [(.long k1), (.ref a1)])) rfl (hb hby d3_17) _ ?_
      show Steps p.tables e below (T12.setTop (mkF m 20 #[.val (.ref a1)] [(.long (7237128888997146477 : Int64)), (.long k1), (.ref a1)])) _
      refine XS.lxor X12.here hx rfl (hb hby d3_20) rfl ?_
      exact k)
  have f15 := F_v1_a1.other W5 (Or.inr (slot_ne (Or.inl (hw _ (List.mem_of_getElem? (i := 24) rfl))) (Or.inl (hw _ (List.mem_of_getElem? (i := 21) rfl))) (by decide) (t := .long) (t' := .long) (by decide) (by decide)))
  have f16 := E_a1.wr W5
  obtain ⟨T17, h17, X17, e17, W17, st17⟩ := putF X12 hx hZ hown (host := "") (Or.inl (hw _ (List.mem_of_getElem? (i := 23) rfl))) Via.refl e12 f15 f16 (Or.inl (hw _ (List.mem_of_getElem? (i := 24) rfl))) (hw _ (List.mem_of_getElem? (i := 2) rfl)) (ty := .long) (by decide) rfl rfl (g := (mkF m 21 #[.val (.ref a1)] [(.long (k1 ^^^ (7237128888997146477 : Int64))), (.ref a1)])) rfl rfl (hb hby d3_21)
  have J18 : ∀ t, Steps p.tables e below (T17.setTop (mkF m 24 #[.val (.ref a1)] [])) t → Steps p.tables e below (s₁.setTop (entryFrame m #[(.ref a1)] 1)) t := fun t k => J14 t (st17 t k)
  have Z19 : n0 ≤ h17.size := Nat.le_trans Z7 (Keep.of_wr W17).1
  have KK20 : Keep h0 h17 [a1] := KK8.wr W17 (Or.inl (List.mem_of_getElem? (i := 0) rfl))
  have N21 := Fr.snoc X17 N9 g_a1
  have Fw17 := f15.same W17
  have J22 : ∀ t, Steps p.tables e below (T17.setTop (mkF m 26 #[.val (.ref a1)] [(.ref a1), (.ref a1)])) t → Steps p.tables e below (s₁.setTop (entryFrame m #[(.ref a1)] 1)) t := fun t k => J18 t (by
      show Steps p.tables e below (T17.setTop (mkF m 24 #[.val (.ref a1)] [])) _
      refine XS.aloadN X17.here hx rfl (hb hby d3_24) rfl rfl ?_
      show Steps p.tables e below (T17.setTop (mkF m 25 #[.val (.ref a1)] [(.ref a1)])) _
      refine XS.aloadN X17.here hx rfl (hb hby d3_25) rfl rfl ?_
      exact k)
  have f23 := F_key0_a1.other W5 (Or.inr (slot_ne (Or.inr (hw _ (List.mem_of_getElem? (i := 11) rfl))) (Or.inl (hw _ (List.mem_of_getElem? (i := 21) rfl))) (by decide) (t := .long) (t' := .long) (by decide) (by decide)))
  have f24 := f23.other W17 (Or.inr (slot_ne (Or.inr (hw _ (List.mem_of_getElem? (i := 11) rfl))) (Or.inl (hw _ (List.mem_of_getElem? (i := 24) rfl))) (by decide) (t := .long) (t' := .long) (by decide) (by decide)))
  obtain ⟨T25, X25, e25, st25⟩ := getF X17 hx hZ hown (host := "") (Or.inl (hw _ (List.mem_of_getElem? (i := 10) rfl))) Via.refl e17 f24 (g := (mkF m 26 #[.val (.ref a1)] [(.ref a1), (.ref a1)])) rfl rfl (hb hby d3_26)
  have J26 : ∀ t, Steps p.tables e below (T25.setTop (mkF m 29 #[.val (.ref a1)] [(.long k0), (.ref a1)])) t → Steps p.tables e below (s₁.setTop (entryFrame m #[(.ref a1)] 1)) t := fun t k => J22 t (st25 t k)
  have J27 : ∀ t, Steps p.tables e below (T25.setTop (mkF m 33 #[.val (.ref a1)] [(.long (k0 ^^^ (7816392313619706465 : Int64))), (.ref a1)])) t → Steps p.tables e below (s₁.setTop (entryFrame m #[(.ref a1)] 1)) t := fun t k => J26 t (by
      show Steps p.tables e below (T25.setTop (mkF m 29 #[.val (.ref a1)] [(.long k0), (.ref a1)])) _
      refine X25.ldc2Long hx hown (mvT hZ (hw _ (List.mem_of_getElem? (i := 25) rfl))) (g := (mkF m 29 #[.val (.ref a1)] [(.long k0), (.ref a1)])) rfl (hb hby d3_29) _ ?_
      show Steps p.tables e below (T25.setTop (mkF m 32 #[.val (.ref a1)] [(.long (7816392313619706465 : Int64)), (.long k0), (.ref a1)])) _
      refine XS.lxor X25.here hx rfl (hb hby d3_32) rfl ?_
      exact k)
  have f28 := F_v2_a1.other W5 (Or.inr (slot_ne (Or.inl (hw _ (List.mem_of_getElem? (i := 27) rfl))) (Or.inl (hw _ (List.mem_of_getElem? (i := 21) rfl))) (by decide) (t := .long) (t' := .long) (by decide) (by decide)))
  have f29 := f28.other W17 (Or.inr (slot_ne (Or.inl (hw _ (List.mem_of_getElem? (i := 27) rfl))) (Or.inl (hw _ (List.mem_of_getElem? (i := 24) rfl))) (by decide) (t := .long) (t' := .long) (by decide) (by decide)))
  have f30 := f16.wr W17
  obtain ⟨T31, h31, X31, e31, W31, st31⟩ := putF X25 hx hZ hown (host := "") (Or.inl (hw _ (List.mem_of_getElem? (i := 26) rfl))) Via.refl e25 f29 f30 (Or.inl (hw _ (List.mem_of_getElem? (i := 27) rfl))) (hw _ (List.mem_of_getElem? (i := 2) rfl)) (ty := .long) (by decide) rfl rfl (g := (mkF m 33 #[.val (.ref a1)] [(.long (k0 ^^^ (7816392313619706465 : Int64))), (.ref a1)])) rfl rfl (hb hby d3_33)
  have J32 : ∀ t, Steps p.tables e below (T31.setTop (mkF m 36 #[.val (.ref a1)] [])) t → Steps p.tables e below (s₁.setTop (entryFrame m #[(.ref a1)] 1)) t := fun t k => J27 t (st31 t k)
  have Z33 : n0 ≤ h31.size := Nat.le_trans Z19 (Keep.of_wr W31).1
  have KK34 : Keep h0 h31 [a1] := KK20.wr W31 (Or.inl (List.mem_of_getElem? (i := 0) rfl))
  have N35 := Fr.snoc X31 N21 g_a1
  have Fw31 := f29.same W31
  have J36 : ∀ t, Steps p.tables e below (T31.setTop (mkF m 38 #[.val (.ref a1)] [(.ref a1), (.ref a1)])) t → Steps p.tables e below (s₁.setTop (entryFrame m #[(.ref a1)] 1)) t := fun t k => J32 t (by
      show Steps p.tables e below (T31.setTop (mkF m 36 #[.val (.ref a1)] [])) _
      refine XS.aloadN X31.here hx rfl (hb hby d3_36) rfl rfl ?_
      show Steps p.tables e below (T31.setTop (mkF m 37 #[.val (.ref a1)] [(.ref a1)])) _
      refine XS.aloadN X31.here hx rfl (hb hby d3_37) rfl rfl ?_
      exact k)
  have f37 := f11.other W17 (Or.inr (slot_ne (Or.inr (hw _ (List.mem_of_getElem? (i := 13) rfl))) (Or.inl (hw _ (List.mem_of_getElem? (i := 24) rfl))) (by decide) (t := .long) (t' := .long) (by decide) (by decide)))
  have f38 := f37.other W31 (Or.inr (slot_ne (Or.inr (hw _ (List.mem_of_getElem? (i := 13) rfl))) (Or.inl (hw _ (List.mem_of_getElem? (i := 27) rfl))) (by decide) (t := .long) (t' := .long) (by decide) (by decide)))
  obtain ⟨T39, X39, e39, st39⟩ := getF X31 hx hZ hown (host := "") (Or.inl (hw _ (List.mem_of_getElem? (i := 12) rfl))) Via.refl e31 f38 (g := (mkF m 38 #[.val (.ref a1)] [(.ref a1), (.ref a1)])) rfl rfl (hb hby d3_38)
  have J40 : ∀ t, Steps p.tables e below (T39.setTop (mkF m 41 #[.val (.ref a1)] [(.long k1), (.ref a1)])) t → Steps p.tables e below (s₁.setTop (entryFrame m #[(.ref a1)] 1)) t := fun t k => J36 t (st39 t k)
  have J41 : ∀ t, Steps p.tables e below (T39.setTop (mkF m 45 #[.val (.ref a1)] [(.long (k1 ^^^ (8387220255154660723 : Int64))), (.ref a1)])) t → Steps p.tables e below (s₁.setTop (entryFrame m #[(.ref a1)] 1)) t := fun t k => J40 t (by
      show Steps p.tables e below (T39.setTop (mkF m 41 #[.val (.ref a1)] [(.long k1), (.ref a1)])) _
      refine X39.ldc2Long hx hown (mvT hZ (hw _ (List.mem_of_getElem? (i := 28) rfl))) (g := (mkF m 41 #[.val (.ref a1)] [(.long k1), (.ref a1)])) rfl (hb hby d3_41) _ ?_
      show Steps p.tables e below (T39.setTop (mkF m 44 #[.val (.ref a1)] [(.long (8387220255154660723 : Int64)), (.long k1), (.ref a1)])) _
      refine XS.lxor X39.here hx rfl (hb hby d3_44) rfl ?_
      exact k)
  have f42 := F_v3_a1.other W5 (Or.inr (slot_ne (Or.inl (hw _ (List.mem_of_getElem? (i := 30) rfl))) (Or.inl (hw _ (List.mem_of_getElem? (i := 21) rfl))) (by decide) (t := .long) (t' := .long) (by decide) (by decide)))
  have f43 := f42.other W17 (Or.inr (slot_ne (Or.inl (hw _ (List.mem_of_getElem? (i := 30) rfl))) (Or.inl (hw _ (List.mem_of_getElem? (i := 24) rfl))) (by decide) (t := .long) (t' := .long) (by decide) (by decide)))
  have f44 := f43.other W31 (Or.inr (slot_ne (Or.inl (hw _ (List.mem_of_getElem? (i := 30) rfl))) (Or.inl (hw _ (List.mem_of_getElem? (i := 27) rfl))) (by decide) (t := .long) (t' := .long) (by decide) (by decide)))
  have f45 := f30.wr W31
  obtain ⟨T46, h46, X46, e46, W46, st46⟩ := putF X39 hx hZ hown (host := "") (Or.inl (hw _ (List.mem_of_getElem? (i := 29) rfl))) Via.refl e39 f44 f45 (Or.inl (hw _ (List.mem_of_getElem? (i := 30) rfl))) (hw _ (List.mem_of_getElem? (i := 2) rfl)) (ty := .long) (by decide) rfl rfl (g := (mkF m 45 #[.val (.ref a1)] [(.long (k1 ^^^ (8387220255154660723 : Int64))), (.ref a1)])) rfl rfl (hb hby d3_45)
  have J47 : ∀ t, Steps p.tables e below (T46.setTop (mkF m 48 #[.val (.ref a1)] [])) t → Steps p.tables e below (s₁.setTop (entryFrame m #[(.ref a1)] 1)) t := fun t k => J41 t (st46 t k)
  have Z48 : n0 ≤ h46.size := Nat.le_trans Z33 (Keep.of_wr W46).1
  have KK49 : Keep h0 h46 [a1] := KK34.wr W46 (Or.inl (List.mem_of_getElem? (i := 0) rfl))
  have N50 := Fr.snoc X46 N35 g_a1
  have Fw46 := f44.same W46
  have J51 : ∀ t, Steps p.tables e below (T46.setTop (mkF m 50 #[.val (.ref a1)] [(.long (0 : Int64)), (.ref a1)])) t → Steps p.tables e below (s₁.setTop (entryFrame m #[(.ref a1)] 1)) t := fun t k => J47 t (by
      show Steps p.tables e below (T46.setTop (mkF m 48 #[.val (.ref a1)] [])) _
      refine XS.aloadN X46.here hx rfl (hb hby d3_48) rfl rfl ?_
      show Steps p.tables e below (T46.setTop (mkF m 49 #[.val (.ref a1)] [(.ref a1)])) _
      refine XS.lconst X46.here hx rfl (hb hby d3_49) ?_
      exact k)
  have f52 := F_word_a1.other W5 (Or.inr (slot_ne (Or.inl (hw _ (List.mem_of_getElem? (i := 32) rfl))) (Or.inl (hw _ (List.mem_of_getElem? (i := 21) rfl))) (by decide) (t := .long) (t' := .long) (by decide) (by decide)))
  have f53 := f52.other W17 (Or.inr (slot_ne (Or.inl (hw _ (List.mem_of_getElem? (i := 32) rfl))) (Or.inl (hw _ (List.mem_of_getElem? (i := 24) rfl))) (by decide) (t := .long) (t' := .long) (by decide) (by decide)))
  have f54 := f53.other W31 (Or.inr (slot_ne (Or.inl (hw _ (List.mem_of_getElem? (i := 32) rfl))) (Or.inl (hw _ (List.mem_of_getElem? (i := 27) rfl))) (by decide) (t := .long) (t' := .long) (by decide) (by decide)))
  have f55 := f54.other W46 (Or.inr (slot_ne (Or.inl (hw _ (List.mem_of_getElem? (i := 32) rfl))) (Or.inl (hw _ (List.mem_of_getElem? (i := 30) rfl))) (by decide) (t := .long) (t' := .long) (by decide) (by decide)))
  have f56 := f45.wr W46
  obtain ⟨T57, h57, X57, e57, W57, st57⟩ := putF X46 hx hZ hown (host := "") (Or.inl (hw _ (List.mem_of_getElem? (i := 31) rfl))) Via.refl e46 f55 f56 (Or.inl (hw _ (List.mem_of_getElem? (i := 32) rfl))) (hw _ (List.mem_of_getElem? (i := 2) rfl)) (ty := .long) (by decide) rfl rfl (g := (mkF m 50 #[.val (.ref a1)] [(.long (0 : Int64)), (.ref a1)])) rfl rfl (hb hby d3_50)
  have J58 : ∀ t, Steps p.tables e below (T57.setTop (mkF m 53 #[.val (.ref a1)] [])) t → Steps p.tables e below (s₁.setTop (entryFrame m #[(.ref a1)] 1)) t := fun t k => J51 t (st57 t k)
  have Z59 : n0 ≤ h57.size := Nat.le_trans Z48 (Keep.of_wr W57).1
  have KK60 : Keep h0 h57 [a1] := KK49.wr W57 (Or.inl (List.mem_of_getElem? (i := 0) rfl))
  have N61 := Fr.snoc X57 N50 g_a1
  have Fw57 := f55.same W57
  have J62 : ∀ t, Steps p.tables e below (T57.setTop (mkF m 55 #[.val (.ref a1)] [(.int (0 : Int32)), (.ref a1)])) t → Steps p.tables e below (s₁.setTop (entryFrame m #[(.ref a1)] 1)) t := fun t k => J58 t (by
      show Steps p.tables e below (T57.setTop (mkF m 53 #[.val (.ref a1)] [])) _
      refine XS.aloadN X57.here hx rfl (hb hby d3_53) rfl rfl ?_
      show Steps p.tables e below (T57.setTop (mkF m 54 #[.val (.ref a1)] [(.ref a1)])) _
      refine XS.iconst X57.here hx rfl (hb hby d3_54) ?_
      exact k)
  have f63 := F_length_a1.other W5 (Or.inr (slot_ne (Or.inl (hw _ (List.mem_of_getElem? (i := 34) rfl))) (Or.inl (hw _ (List.mem_of_getElem? (i := 21) rfl))) (by decide) (t := .int) (t' := .long) (by decide) (by decide)))
  have f64 := f63.other W17 (Or.inr (slot_ne (Or.inl (hw _ (List.mem_of_getElem? (i := 34) rfl))) (Or.inl (hw _ (List.mem_of_getElem? (i := 24) rfl))) (by decide) (t := .int) (t' := .long) (by decide) (by decide)))
  have f65 := f64.other W31 (Or.inr (slot_ne (Or.inl (hw _ (List.mem_of_getElem? (i := 34) rfl))) (Or.inl (hw _ (List.mem_of_getElem? (i := 27) rfl))) (by decide) (t := .int) (t' := .long) (by decide) (by decide)))
  have f66 := f65.other W46 (Or.inr (slot_ne (Or.inl (hw _ (List.mem_of_getElem? (i := 34) rfl))) (Or.inl (hw _ (List.mem_of_getElem? (i := 30) rfl))) (by decide) (t := .int) (t' := .long) (by decide) (by decide)))
  have f67 := f66.other W57 (Or.inr (slot_ne (Or.inl (hw _ (List.mem_of_getElem? (i := 34) rfl))) (Or.inl (hw _ (List.mem_of_getElem? (i := 32) rfl))) (by decide) (t := .int) (t' := .long) (by decide) (by decide)))
  have f68 := f56.wr W57
  obtain ⟨T69, h69, X69, e69, W69, st69⟩ := putF X57 hx hZ hown (host := "") (Or.inl (hw _ (List.mem_of_getElem? (i := 33) rfl))) Via.refl e57 f67 f68 (Or.inl (hw _ (List.mem_of_getElem? (i := 34) rfl))) (hw _ (List.mem_of_getElem? (i := 2) rfl)) (ty := .int) (by decide) rfl rfl (g := (mkF m 55 #[.val (.ref a1)] [(.int (0 : Int32)), (.ref a1)])) rfl rfl (hb hby d3_55)
  have J70 : ∀ t, Steps p.tables e below (T69.setTop (mkF m 58 #[.val (.ref a1)] [])) t → Steps p.tables e below (s₁.setTop (entryFrame m #[(.ref a1)] 1)) t := fun t k => J62 t (st69 t k)
  have Z71 : n0 ≤ h69.size := Nat.le_trans Z59 (Keep.of_wr W69).1
  have KK72 : Keep h0 h69 [a1] := KK60.wr W69 (Or.inl (List.mem_of_getElem? (i := 0) rfl))
  have N73 := Fr.snoc X69 N61 g_a1
  have Fw69 := f67.same W69
  obtain ⟨fs, hr, hrun, hended, hW, hsame⟩ := X69.leave (v := none) (fun _ => rfl)
  have f74 := f68.wr W69
  have f75 := f24.other W31 (Or.inr (slot_ne (Or.inr (hw _ (List.mem_of_getElem? (i := 11) rfl))) (Or.inl (hw _ (List.mem_of_getElem? (i := 27) rfl))) (by decide) (t := .long) (t' := .long) (by decide) (by decide)))
  have f76 := f75.other W46 (Or.inr (slot_ne (Or.inr (hw _ (List.mem_of_getElem? (i := 11) rfl))) (Or.inl (hw _ (List.mem_of_getElem? (i := 30) rfl))) (by decide) (t := .long) (t' := .long) (by decide) (by decide)))
  have f77 := f76.other W57 (Or.inr (slot_ne (Or.inr (hw _ (List.mem_of_getElem? (i := 11) rfl))) (Or.inl (hw _ (List.mem_of_getElem? (i := 32) rfl))) (by decide) (t := .long) (t' := .long) (by decide) (by decide)))
  have f78 := f77.other W69 (Or.inr (slot_ne (Or.inr (hw _ (List.mem_of_getElem? (i := 11) rfl))) (Or.inl (hw _ (List.mem_of_getElem? (i := 34) rfl))) (by decide) (t := .long) (t' := .int) (by decide) (by decide)))
  have f79 := f38.other W46 (Or.inr (slot_ne (Or.inr (hw _ (List.mem_of_getElem? (i := 13) rfl))) (Or.inl (hw _ (List.mem_of_getElem? (i := 30) rfl))) (by decide) (t := .long) (t' := .long) (by decide) (by decide)))
  have f80 := f79.other W57 (Or.inr (slot_ne (Or.inr (hw _ (List.mem_of_getElem? (i := 13) rfl))) (Or.inl (hw _ (List.mem_of_getElem? (i := 32) rfl))) (by decide) (t := .long) (t' := .long) (by decide) (by decide)))
  have f81 := f80.other W69 (Or.inr (slot_ne (Or.inr (hw _ (List.mem_of_getElem? (i := 13) rfl))) (Or.inl (hw _ (List.mem_of_getElem? (i := 34) rfl))) (by decide) (t := .long) (t' := .int) (by decide) (by decide)))
  have f82 := Fw5.other W17 (Or.inr (slot_ne (Or.inl (hw _ (List.mem_of_getElem? (i := 21) rfl))) (Or.inl (hw _ (List.mem_of_getElem? (i := 24) rfl))) (by decide) (t := .long) (t' := .long) (by decide) (by decide)))
  have f83 := f82.other W31 (Or.inr (slot_ne (Or.inl (hw _ (List.mem_of_getElem? (i := 21) rfl))) (Or.inl (hw _ (List.mem_of_getElem? (i := 27) rfl))) (by decide) (t := .long) (t' := .long) (by decide) (by decide)))
  have f84 := f83.other W46 (Or.inr (slot_ne (Or.inl (hw _ (List.mem_of_getElem? (i := 21) rfl))) (Or.inl (hw _ (List.mem_of_getElem? (i := 30) rfl))) (by decide) (t := .long) (t' := .long) (by decide) (by decide)))
  have f85 := f84.other W57 (Or.inr (slot_ne (Or.inl (hw _ (List.mem_of_getElem? (i := 21) rfl))) (Or.inl (hw _ (List.mem_of_getElem? (i := 32) rfl))) (by decide) (t := .long) (t' := .long) (by decide) (by decide)))
  have f86 := f85.other W69 (Or.inr (slot_ne (Or.inl (hw _ (List.mem_of_getElem? (i := 21) rfl))) (Or.inl (hw _ (List.mem_of_getElem? (i := 34) rfl))) (by decide) (t := .long) (t' := .int) (by decide) (by decide)))
  have f87 := Fw17.other W31 (Or.inr (slot_ne (Or.inl (hw _ (List.mem_of_getElem? (i := 24) rfl))) (Or.inl (hw _ (List.mem_of_getElem? (i := 27) rfl))) (by decide) (t := .long) (t' := .long) (by decide) (by decide)))
  have f88 := f87.other W46 (Or.inr (slot_ne (Or.inl (hw _ (List.mem_of_getElem? (i := 24) rfl))) (Or.inl (hw _ (List.mem_of_getElem? (i := 30) rfl))) (by decide) (t := .long) (t' := .long) (by decide) (by decide)))
  have f89 := f88.other W57 (Or.inr (slot_ne (Or.inl (hw _ (List.mem_of_getElem? (i := 24) rfl))) (Or.inl (hw _ (List.mem_of_getElem? (i := 32) rfl))) (by decide) (t := .long) (t' := .long) (by decide) (by decide)))
  have f90 := f89.other W69 (Or.inr (slot_ne (Or.inl (hw _ (List.mem_of_getElem? (i := 24) rfl))) (Or.inl (hw _ (List.mem_of_getElem? (i := 34) rfl))) (by decide) (t := .long) (t' := .int) (by decide) (by decide)))
  have f91 := Fw31.other W46 (Or.inr (slot_ne (Or.inl (hw _ (List.mem_of_getElem? (i := 27) rfl))) (Or.inl (hw _ (List.mem_of_getElem? (i := 30) rfl))) (by decide) (t := .long) (t' := .long) (by decide) (by decide)))
  have f92 := f91.other W57 (Or.inr (slot_ne (Or.inl (hw _ (List.mem_of_getElem? (i := 27) rfl))) (Or.inl (hw _ (List.mem_of_getElem? (i := 32) rfl))) (by decide) (t := .long) (t' := .long) (by decide) (by decide)))
  have f93 := f92.other W69 (Or.inr (slot_ne (Or.inl (hw _ (List.mem_of_getElem? (i := 27) rfl))) (Or.inl (hw _ (List.mem_of_getElem? (i := 34) rfl))) (by decide) (t := .long) (t' := .int) (by decide) (by decide)))
  have f94 := Fw46.other W57 (Or.inr (slot_ne (Or.inl (hw _ (List.mem_of_getElem? (i := 30) rfl))) (Or.inl (hw _ (List.mem_of_getElem? (i := 32) rfl))) (by decide) (t := .long) (t' := .long) (by decide) (by decide)))
  have f95 := f94.other W69 (Or.inr (slot_ne (Or.inl (hw _ (List.mem_of_getElem? (i := 30) rfl))) (Or.inl (hw _ (List.mem_of_getElem? (i := 34) rfl))) (by decide) (t := .long) (t' := .int) (by decide) (by decide)))
  have f96 := Fw57.other W69 (Or.inr (slot_ne (Or.inl (hw _ (List.mem_of_getElem? (i := 32) rfl))) (Or.inl (hw _ (List.mem_of_getElem? (i := 34) rfl))) (by decide) (t := .long) (t' := .int) (by decide) (by decide)))
  refine ⟨_, _, J70 _ ?_, hrun, hended, _, _, rfl, ?_, ⟨_, rfl⟩, hW, hsame.mono (by decide) (by decide)⟩
  · show Steps p.tables e below (T69.setTop (mkF m 58 #[.val (.ref a1)] [])) _
    exact X69.returnOut hx Bd.returns (hb hby d3_58) hr
  · show Q3 Z a1 k0 k1 x0 x1 x2 x3 x4 x5 h0 n0 _ T69.heap _
    rw [e69]
    exact ⟨(k0 ^^^ (8317987319222330741 : Int64)), (k1 ^^^ (7237128888997146477 : Int64)), (k0 ^^^ (7816392313619706465 : Int64)), (k1 ^^^ (8387220255154660723 : Int64)), (0 : Int64), (0 : Int32), rfl, N73, KK72, f74, f78, f81, f86, f90, f93, f95, f96, Fw69, rfl⟩
theorem d8_0 : decode prog_76_method_6_code 0 = .ok (.aload_n 0, 1) := by decide +kernel
theorem d8_1 : decode prog_76_method_6_code 1 = .ok (.dup, 1) := by decide +kernel
theorem d8_2 : decode prog_76_method_6_code 2 = .ok (.getfield 24, 3) := by decide +kernel
theorem d8_5 : decode prog_76_method_6_code 5 = .ok (.aload_n 0, 1) := by decide +kernel
theorem d8_6 : decode prog_76_method_6_code 6 = .ok (.getfield 29, 3) := by decide +kernel
theorem d8_9 : decode prog_76_method_6_code 9 = .ok (.ladd, 1) := by decide +kernel
theorem d8_10 : decode prog_76_method_6_code 10 = .ok (.putfield 24, 3) := by decide +kernel
theorem d8_13 : decode prog_76_method_6_code 13 = .ok (.aload_n 0, 1) := by decide +kernel
theorem d8_14 : decode prog_76_method_6_code 14 = .ok (.aload_n 0, 1) := by decide +kernel
theorem d8_15 : decode prog_76_method_6_code 15 = .ok (.getfield 29, 3) := by decide +kernel
theorem d8_18 : decode prog_76_method_6_code 18 = .ok (.bipush 13, 2) := by decide +kernel
theorem d8_20 : decode prog_76_method_6_code 20 = .ok (.invokestatic 60, 3) := by decide +kernel
theorem pd_0 : parseMethodDescriptor "(JI)J" = some ⟨[.long, .int], some .long⟩ := by decide +kernel
theorem d8_23 : decode prog_76_method_6_code 23 = .ok (.putfield 29, 3) := by decide +kernel
theorem d8_26 : decode prog_76_method_6_code 26 = .ok (.aload_n 0, 1) := by decide +kernel
theorem d8_27 : decode prog_76_method_6_code 27 = .ok (.dup, 1) := by decide +kernel
theorem d8_28 : decode prog_76_method_6_code 28 = .ok (.getfield 29, 3) := by decide +kernel
theorem d8_31 : decode prog_76_method_6_code 31 = .ok (.aload_n 0, 1) := by decide +kernel
theorem d8_32 : decode prog_76_method_6_code 32 = .ok (.getfield 24, 3) := by decide +kernel
theorem d8_35 : decode prog_76_method_6_code 35 = .ok (.lxor, 1) := by decide +kernel
theorem d8_36 : decode prog_76_method_6_code 36 = .ok (.putfield 29, 3) := by decide +kernel
theorem d8_39 : decode prog_76_method_6_code 39 = .ok (.aload_n 0, 1) := by decide +kernel
theorem d8_40 : decode prog_76_method_6_code 40 = .ok (.aload_n 0, 1) := by decide +kernel
theorem d8_41 : decode prog_76_method_6_code 41 = .ok (.getfield 24, 3) := by decide +kernel
theorem d8_44 : decode prog_76_method_6_code 44 = .ok (.bipush 32, 2) := by decide +kernel
theorem d8_46 : decode prog_76_method_6_code 46 = .ok (.invokestatic 60, 3) := by decide +kernel
theorem d8_49 : decode prog_76_method_6_code 49 = .ok (.putfield 24, 3) := by decide +kernel
theorem d8_52 : decode prog_76_method_6_code 52 = .ok (.aload_n 0, 1) := by decide +kernel
theorem d8_53 : decode prog_76_method_6_code 53 = .ok (.dup, 1) := by decide +kernel
theorem d8_54 : decode prog_76_method_6_code 54 = .ok (.getfield 34, 3) := by decide +kernel
theorem d8_57 : decode prog_76_method_6_code 57 = .ok (.aload_n 0, 1) := by decide +kernel
theorem d8_58 : decode prog_76_method_6_code 58 = .ok (.getfield 39, 3) := by decide +kernel
theorem d8_61 : decode prog_76_method_6_code 61 = .ok (.ladd, 1) := by decide +kernel
theorem d8_62 : decode prog_76_method_6_code 62 = .ok (.putfield 34, 3) := by decide +kernel
theorem d8_65 : decode prog_76_method_6_code 65 = .ok (.aload_n 0, 1) := by decide +kernel
theorem d8_66 : decode prog_76_method_6_code 66 = .ok (.aload_n 0, 1) := by decide +kernel
theorem d8_67 : decode prog_76_method_6_code 67 = .ok (.getfield 39, 3) := by decide +kernel
theorem d8_70 : decode prog_76_method_6_code 70 = .ok (.bipush 16, 2) := by decide +kernel
theorem d8_72 : decode prog_76_method_6_code 72 = .ok (.invokestatic 60, 3) := by decide +kernel
theorem d8_75 : decode prog_76_method_6_code 75 = .ok (.putfield 39, 3) := by decide +kernel
theorem d8_78 : decode prog_76_method_6_code 78 = .ok (.aload_n 0, 1) := by decide +kernel
theorem d8_79 : decode prog_76_method_6_code 79 = .ok (.dup, 1) := by decide +kernel
theorem d8_80 : decode prog_76_method_6_code 80 = .ok (.getfield 39, 3) := by decide +kernel
theorem d8_83 : decode prog_76_method_6_code 83 = .ok (.aload_n 0, 1) := by decide +kernel
theorem d8_84 : decode prog_76_method_6_code 84 = .ok (.getfield 34, 3) := by decide +kernel
theorem d8_87 : decode prog_76_method_6_code 87 = .ok (.lxor, 1) := by decide +kernel
theorem d8_88 : decode prog_76_method_6_code 88 = .ok (.putfield 39, 3) := by decide +kernel
theorem d8_91 : decode prog_76_method_6_code 91 = .ok (.aload_n 0, 1) := by decide +kernel
theorem d8_92 : decode prog_76_method_6_code 92 = .ok (.dup, 1) := by decide +kernel
theorem d8_93 : decode prog_76_method_6_code 93 = .ok (.getfield 24, 3) := by decide +kernel
theorem d8_96 : decode prog_76_method_6_code 96 = .ok (.aload_n 0, 1) := by decide +kernel
theorem d8_97 : decode prog_76_method_6_code 97 = .ok (.getfield 39, 3) := by decide +kernel
theorem d8_100 : decode prog_76_method_6_code 100 = .ok (.ladd, 1) := by decide +kernel
theorem d8_101 : decode prog_76_method_6_code 101 = .ok (.putfield 24, 3) := by decide +kernel
theorem d8_104 : decode prog_76_method_6_code 104 = .ok (.aload_n 0, 1) := by decide +kernel
theorem d8_105 : decode prog_76_method_6_code 105 = .ok (.aload_n 0, 1) := by decide +kernel
theorem d8_106 : decode prog_76_method_6_code 106 = .ok (.getfield 39, 3) := by decide +kernel
theorem d8_109 : decode prog_76_method_6_code 109 = .ok (.bipush 21, 2) := by decide +kernel
theorem d8_111 : decode prog_76_method_6_code 111 = .ok (.invokestatic 60, 3) := by decide +kernel
theorem d8_114 : decode prog_76_method_6_code 114 = .ok (.putfield 39, 3) := by decide +kernel
theorem d8_117 : decode prog_76_method_6_code 117 = .ok (.aload_n 0, 1) := by decide +kernel
theorem d8_118 : decode prog_76_method_6_code 118 = .ok (.dup, 1) := by decide +kernel
theorem d8_119 : decode prog_76_method_6_code 119 = .ok (.getfield 39, 3) := by decide +kernel
theorem d8_122 : decode prog_76_method_6_code 122 = .ok (.aload_n 0, 1) := by decide +kernel
theorem d8_123 : decode prog_76_method_6_code 123 = .ok (.getfield 24, 3) := by decide +kernel
theorem d8_126 : decode prog_76_method_6_code 126 = .ok (.lxor, 1) := by decide +kernel
theorem d8_127 : decode prog_76_method_6_code 127 = .ok (.putfield 39, 3) := by decide +kernel
theorem d8_130 : decode prog_76_method_6_code 130 = .ok (.aload_n 0, 1) := by decide +kernel
theorem d8_131 : decode prog_76_method_6_code 131 = .ok (.dup, 1) := by decide +kernel
theorem d8_132 : decode prog_76_method_6_code 132 = .ok (.getfield 34, 3) := by decide +kernel
theorem d8_135 : decode prog_76_method_6_code 135 = .ok (.aload_n 0, 1) := by decide +kernel
theorem d8_136 : decode prog_76_method_6_code 136 = .ok (.getfield 29, 3) := by decide +kernel
theorem d8_139 : decode prog_76_method_6_code 139 = .ok (.ladd, 1) := by decide +kernel
theorem d8_140 : decode prog_76_method_6_code 140 = .ok (.putfield 34, 3) := by decide +kernel
theorem d8_143 : decode prog_76_method_6_code 143 = .ok (.aload_n 0, 1) := by decide +kernel
theorem d8_144 : decode prog_76_method_6_code 144 = .ok (.aload_n 0, 1) := by decide +kernel
theorem d8_145 : decode prog_76_method_6_code 145 = .ok (.getfield 29, 3) := by decide +kernel
theorem d8_148 : decode prog_76_method_6_code 148 = .ok (.bipush 17, 2) := by decide +kernel
theorem d8_150 : decode prog_76_method_6_code 150 = .ok (.invokestatic 60, 3) := by decide +kernel
theorem d8_153 : decode prog_76_method_6_code 153 = .ok (.putfield 29, 3) := by decide +kernel
theorem d8_156 : decode prog_76_method_6_code 156 = .ok (.aload_n 0, 1) := by decide +kernel
theorem d8_157 : decode prog_76_method_6_code 157 = .ok (.dup, 1) := by decide +kernel
theorem d8_158 : decode prog_76_method_6_code 158 = .ok (.getfield 29, 3) := by decide +kernel
theorem d8_161 : decode prog_76_method_6_code 161 = .ok (.aload_n 0, 1) := by decide +kernel
theorem d8_162 : decode prog_76_method_6_code 162 = .ok (.getfield 34, 3) := by decide +kernel
theorem d8_165 : decode prog_76_method_6_code 165 = .ok (.lxor, 1) := by decide +kernel
theorem d8_166 : decode prog_76_method_6_code 166 = .ok (.putfield 29, 3) := by decide +kernel
theorem d8_169 : decode prog_76_method_6_code 169 = .ok (.aload_n 0, 1) := by decide +kernel
theorem d8_170 : decode prog_76_method_6_code 170 = .ok (.aload_n 0, 1) := by decide +kernel
theorem d8_171 : decode prog_76_method_6_code 171 = .ok (.getfield 34, 3) := by decide +kernel
theorem d8_174 : decode prog_76_method_6_code 174 = .ok (.bipush 32, 2) := by decide +kernel
theorem d8_176 : decode prog_76_method_6_code 176 = .ok (.invokestatic 60, 3) := by decide +kernel
theorem d8_179 : decode prog_76_method_6_code 179 = .ok (.putfield 34, 3) := by decide +kernel
theorem d8_182 : decode prog_76_method_6_code 182 = .ok (.return_, 1) := by decide +kernel
theorem pn_8 : plainName "com/example/tranche/tranche/io/SipHash" = true := by first | (simp [plainName, overriddenIn]; done) | decide +kernel
theorem ef_8_x (m : MethodId) (x0 : Addr) : entryFrame m #[(.ref x0)] 1 = mkF m 0 #[.val (.ref x0)] [] := by first | (simp [entryFrame, mkF, argsToLocals, Value.category]; done) | rfl
def Q8 (Z : State) (a1 : Addr) (k0 : Int64) (k1 : Int64) (x0 : Int64) (x1 : Int64) (x2 : Int64) (x3 : Int64) (x4 : Int64) (x5 : Int32) (h0 : Heap) (n0 : Nat) (v : Option Value) (h : Heap) (L : List Loc) : Prop := ∃ (z0 : Int64) (z1 : Int64) (z2 : Int64) (z3 : Int64) (z4 : Int64) (z5 : Int32), v = none ∧ Fr n0 L ∧ Keep h0 h [a1] ∧ (Exa Z h a1 "com/example/tranche/tranche/io/SipHash") ∧ (Fld Z h a1 "com/example/tranche/tranche/io/SipHash" "key0" "J" (.long k0)) ∧ (Fld Z h a1 "com/example/tranche/tranche/io/SipHash" "key1" "J" (.long k1)) ∧ (Fld Z h a1 "com/example/tranche/tranche/io/SipHash" "v0" "J" (.long z0)) ∧ (Fld Z h a1 "com/example/tranche/tranche/io/SipHash" "v1" "J" (.long z1)) ∧ (Fld Z h a1 "com/example/tranche/tranche/io/SipHash" "v2" "J" (.long z2)) ∧ (Fld Z h a1 "com/example/tranche/tranche/io/SipHash" "v3" "J" (.long z3)) ∧ (Fld Z h a1 "com/example/tranche/tranche/io/SipHash" "word" "J" (.long z4)) ∧ (Fld Z h a1 "com/example/tranche/tranche/io/SipHash" "length" "I" (.int z5)) ∧ (((z0, z1, z2, z3, z4, z5) : SS) = own_round ((x0, x1, x2, x3, x4, x5) : SS))
set_option maxRecDepth 65536 in
set_option maxHeartbeats 40000000 in
theorem rm8 (l : Launch) (Z : State) (a0 : Array Value) (hw : ∀ d ∈ tables_1, d.before a0 Z = true) (ws : List Jvm.Cond) (a1 : Addr) (k0 : Int64) (k1 : Int64) (x0 : Int64) (x1 : Int64) (x2 : Int64) (x3 : Int64) (x4 : Int64) (x5 : Int32) (h0 : Heap) (n0 : Nat) (Z0 : n0 ≤ h0.size) (E_a1 : Exa Z h0 a1 "com/example/tranche/tranche/io/SipHash") (g_a1 : n0 ≤ a1) (F_key0_a1 : Fld Z h0 a1 "com/example/tranche/tranche/io/SipHash" "key0" "J" (.long k0)) (F_key1_a1 : Fld Z h0 a1 "com/example/tranche/tranche/io/SipHash" "key1" "J" (.long k1)) (F_v0_a1 : Fld Z h0 a1 "com/example/tranche/tranche/io/SipHash" "v0" "J" (.long x0)) (F_v1_a1 : Fld Z h0 a1 "com/example/tranche/tranche/io/SipHash" "v1" "J" (.long x1)) (F_v2_a1 : Fld Z h0 a1 "com/example/tranche/tranche/io/SipHash" "v2" "J" (.long x2)) (F_v3_a1 : Fld Z h0 a1 "com/example/tranche/tranche/io/SipHash" "v3" "J" (.long x3)) (F_word_a1 : Fld Z h0 a1 "com/example/tranche/tranche/io/SipHash" "word" "J" (.long x4)) (F_length_a1 : Fld Z h0 a1 "com/example/tranche/tranche/io/SipHash" "length" "I" (.int x5)) :
    MetFree l (⟨"com/example/tranche/tranche/io/SipHash", "round", "()V"⟩ : MethodName) (head1 (Jvm.Cond.code (⟨"com/example/tranche/tranche/io/SipHash", "round", "()V"⟩ : MethodName) prog_76_method_6_code 1 none :: ws) ({ frames := 1, cells := 0, slots := 0, locals := 15 } : Room)) (fun a U => a = #[(.ref a1)] ∧ Z.Warmed39 U.vm ∧ U.heap = h0) (fun _ _ _ _ _ => True) (fun _ U o U' => ∃ v L, o = .returned v ∧ Q8 Z a1 k0 k1 x0 x1 x2 x3 x4 x5 h0 n0 v U'.heap L ∧ FrameEnd U o U' L ({ frames := 1, cells := 0, slots := 0, locals := 15 } : Room).cells ({ frames := 1, cells := 0, slots := 0, locals := 15 } : Room).slots) := by
  refine MetFree.of_bodySF (plainFor_of_name pn_8) hisR ?_
  intro p e s m args below meth c s₁ Bd hml0 hP hK
  obtain ⟨rfl, hZ, hh⟩ := hP
  have hx := Bd.exec
  have hby := Bd.bytes
  have hml : c.maxLocals = 1 := hml0
  have hown : s.vm.findClass "com/example/tranche/tranche/io/SipHash" = some m.cls := findClass_of_methodNamed Bd.named
  have hnm := (name_of_methodNamed Bd.named Bd.method).1
  have X0 : Stand p l e ({ frames := 1, cells := 0, slots := 0, locals := 15 } : Room) s m #[(.ref a1)] below meth c s₁ [] 0 0 := Stand.of_body Bd
  have e0 : s₁.heap = h0 := by rw [← hh, Bd.state]; rfl
  have N0 := Fr.nil n0
  have pre0 : ∀ t, Steps p.tables e below (s₁.setTop (mkF m 0 #[.val (.ref a1)] [])) t → Steps p.tables e below (s₁.setTop (entryFrame m #[(.ref a1)] 1)) t := fun t k => castTop (ef_8_x m a1) k
  have J1 : ∀ t, Steps p.tables e below (s₁.setTop (mkF m 2 #[.val (.ref a1)] [(.ref a1), (.ref a1)])) t → Steps p.tables e below (s₁.setTop (entryFrame m #[(.ref a1)] 1)) t := fun t k => pre0 t (by
      show Steps p.tables e below (s₁.setTop (mkF m 0 #[.val (.ref a1)] [])) _
      refine XS.aloadN X0.here hx rfl (hb hby d8_0) rfl rfl ?_
      show Steps p.tables e below (s₁.setTop (mkF m 1 #[.val (.ref a1)] [(.ref a1)])) _
      refine XS.dup X0.here hx rfl (hb hby d8_1) rfl rfl ?_
      exact k)
  obtain ⟨T2, X2, e2, st2⟩ := getF X0 hx hZ hown (host := "") (Or.inl (hw _ (List.mem_of_getElem? (i := 20) rfl))) Via.refl e0 F_v0_a1 (g := (mkF m 2 #[.val (.ref a1)] [(.ref a1), (.ref a1)])) rfl rfl (hb hby d8_2)
  have J3 : ∀ t, Steps p.tables e below (T2.setTop (mkF m 5 #[.val (.ref a1)] [(.long x0), (.ref a1)])) t → Steps p.tables e below (s₁.setTop (entryFrame m #[(.ref a1)] 1)) t := fun t k => J1 t (st2 t k)
  have J4 : ∀ t, Steps p.tables e below (T2.setTop (mkF m 6 #[.val (.ref a1)] [(.ref a1), (.long x0), (.ref a1)])) t → Steps p.tables e below (s₁.setTop (entryFrame m #[(.ref a1)] 1)) t := fun t k => J3 t (by
      show Steps p.tables e below (T2.setTop (mkF m 5 #[.val (.ref a1)] [(.long x0), (.ref a1)])) _
      refine XS.aloadN X2.here hx rfl (hb hby d8_5) rfl rfl ?_
      exact k)
  obtain ⟨T5, X5, e5, st5⟩ := getF X2 hx hZ hown (host := "") (Or.inl (hw _ (List.mem_of_getElem? (i := 23) rfl))) Via.refl e2 F_v1_a1 (g := (mkF m 6 #[.val (.ref a1)] [(.ref a1), (.long x0), (.ref a1)])) rfl rfl (hb hby d8_6)
  have J6 : ∀ t, Steps p.tables e below (T5.setTop (mkF m 9 #[.val (.ref a1)] [(.long x1), (.long x0), (.ref a1)])) t → Steps p.tables e below (s₁.setTop (entryFrame m #[(.ref a1)] 1)) t := fun t k => J4 t (st5 t k)
  have J7 : ∀ t, Steps p.tables e below (T5.setTop (mkF m 10 #[.val (.ref a1)] [(.long (x0 + x1)), (.ref a1)])) t → Steps p.tables e below (s₁.setTop (entryFrame m #[(.ref a1)] 1)) t := fun t k => J6 t (by
      show Steps p.tables e below (T5.setTop (mkF m 9 #[.val (.ref a1)] [(.long x1), (.long x0), (.ref a1)])) _
      refine XS.ladd X5.here hx rfl (hb hby d8_9) rfl ?_
      exact k)
  obtain ⟨T8, h8, X8, e8, W8, st8⟩ := putF X5 hx hZ hown (host := "") (Or.inl (hw _ (List.mem_of_getElem? (i := 20) rfl))) Via.refl e5 F_v0_a1 E_a1 (Or.inl (hw _ (List.mem_of_getElem? (i := 21) rfl))) (hw _ (List.mem_of_getElem? (i := 2) rfl)) (ty := .long) (by decide) rfl rfl (g := (mkF m 10 #[.val (.ref a1)] [(.long (x0 + x1)), (.ref a1)])) rfl rfl (hb hby d8_10)
  have J9 : ∀ t, Steps p.tables e below (T8.setTop (mkF m 13 #[.val (.ref a1)] [])) t → Steps p.tables e below (s₁.setTop (entryFrame m #[(.ref a1)] 1)) t := fun t k => J7 t (st8 t k)
  have Z10 : n0 ≤ h8.size := Nat.le_trans Z0 (Keep.of_wr W8).1
  have KK11 : Keep h0 h8 [a1] := (Keep.refl h0 [a1]).wr W8 (Or.inl (List.mem_of_getElem? (i := 0) rfl))
  have N12 := Fr.snoc X8 N0 g_a1
  have Fw8 := F_v0_a1.same W8
  have J13 : ∀ t, Steps p.tables e below (T8.setTop (mkF m 15 #[.val (.ref a1)] [(.ref a1), (.ref a1)])) t → Steps p.tables e below (s₁.setTop (entryFrame m #[(.ref a1)] 1)) t := fun t k => J9 t (by
      show Steps p.tables e below (T8.setTop (mkF m 13 #[.val (.ref a1)] [])) _
      refine XS.aloadN X8.here hx rfl (hb hby d8_13) rfl rfl ?_
      show Steps p.tables e below (T8.setTop (mkF m 14 #[.val (.ref a1)] [(.ref a1)])) _
      refine XS.aloadN X8.here hx rfl (hb hby d8_14) rfl rfl ?_
      exact k)
  have f14 := F_v1_a1.other W8 (Or.inr (slot_ne (Or.inl (hw _ (List.mem_of_getElem? (i := 24) rfl))) (Or.inl (hw _ (List.mem_of_getElem? (i := 21) rfl))) (by decide) (t := .long) (t' := .long) (by decide) (by decide)))
  obtain ⟨T15, X15, e15, st15⟩ := getF X8 hx hZ hown (host := "") (Or.inl (hw _ (List.mem_of_getElem? (i := 23) rfl))) Via.refl e8 f14 (g := (mkF m 15 #[.val (.ref a1)] [(.ref a1), (.ref a1)])) rfl rfl (hb hby d8_15)
  have J16 : ∀ t, Steps p.tables e below (T15.setTop (mkF m 18 #[.val (.ref a1)] [(.long x1), (.ref a1)])) t → Steps p.tables e below (s₁.setTop (entryFrame m #[(.ref a1)] 1)) t := fun t k => J13 t (st15 t k)
  have J17 : ∀ t, Steps p.tables e below (T15.setTop (mkF m 20 #[.val (.ref a1)] [(.int (13 : Int32)), (.long x1), (.ref a1)])) t → Steps p.tables e below (s₁.setTop (entryFrame m #[(.ref a1)] 1)) t := fun t k => J16 t (by
      show Steps p.tables e below (T15.setTop (mkF m 18 #[.val (.ref a1)] [(.long x1), (.ref a1)])) _
      refine XS.bipush X15.here hx rfl (hb hby d8_18) ?_
      exact k)
  obtain ⟨_, _, ⟨T18, L18, k18, n18⟩, -, X18, ⟨Lc18, hQ18, l18, y18, z18⟩, st18⟩ := Jvm.LawKit.callS X15 hx (y := (⟨"java/lang/Long", "rotateLeft", "(JI)J"⟩ : MethodName)) hown (mvT hZ (hw _ (List.mem_of_getElem? (i := 58) rfl))) (mvT hZ (hw _ (List.mem_of_getElem? (i := 59) rfl))) (mvT hZ (hw _ (List.mem_of_getElem? (i := 60) rfl))) (mvT hZ (hw _ (List.mem_of_getElem? (i := 61) rfl))) (by decide) (backOf (W := 1) (rm9 l Z a0 hw [] x1 (13 : Int32) h8 n0 Z10 ) hZ (hw _ (List.mem_of_getElem? (i := 61) rfl)) (hw _ (List.mem_of_getElem? (i := 60) rfl)) (by decide) (by decide)) (g := (mkF m 20 #[.val (.ref a1)] [(.int (13 : Int32)), (.long x1), (.ref a1)])) rfl (by rw [hml]; rfl) (argsL := [(.long x1), (.int (13 : Int32))]) (rest := [(.ref a1)]) (lenOf pd_0 rfl) rfl (by show 2 * 0 + _ ≤ _; exact Nat.le_of_eq rfl) (hb hby d8_20) (fun _ _ => ⟨rfl, e15, (by decide : 0 + 0 ≤ _), (by decide : 0 + 0 ≤ _)⟩)
  dsimp only [Pt.U, Pt.locs, Pt.cells, Pt.slots] at X18 l18 y18 z18 st18 hQ18
  subst l18 y18 z18
  obtain ⟨rfl, Nq18, e18⟩ := hQ18
  have N19 := Fr.app N12 Nq18
  have J20 : ∀ t, Steps p.tables e below (T18.setTop (mkF m 23 #[.val (.ref a1)] [(.long (own_rot x1 (13 : Int32))), (.ref a1)])) t → Steps p.tables e below (s₁.setTop (entryFrame m #[(.ref a1)] 1)) t := fun t k => J17 t (st18 t k)
  have f21 := E_a1.wr W8
  obtain ⟨T22, h22, X22, e22, W22, st22⟩ := putF X18 hx hZ hown (host := "") (Or.inl (hw _ (List.mem_of_getElem? (i := 23) rfl))) Via.refl e18 f14 f21 (Or.inl (hw _ (List.mem_of_getElem? (i := 24) rfl))) (hw _ (List.mem_of_getElem? (i := 2) rfl)) (ty := .long) (by decide) rfl rfl (g := (mkF m 23 #[.val (.ref a1)] [(.long (own_rot x1 (13 : Int32))), (.ref a1)])) rfl rfl (hb hby d8_23)
  have J23 : ∀ t, Steps p.tables e below (T22.setTop (mkF m 26 #[.val (.ref a1)] [])) t → Steps p.tables e below (s₁.setTop (entryFrame m #[(.ref a1)] 1)) t := fun t k => J20 t (st22 t k)
  have Z24 : n0 ≤ h22.size := Nat.le_trans Z10 (Keep.of_wr W22).1
  have KK25 : Keep h0 h22 [a1] := KK11.wr W22 (Or.inl (List.mem_of_getElem? (i := 0) rfl))
  have N26 := Fr.snoc X22 N19 g_a1
  have Fw22 := f14.same W22
  have J27 : ∀ t, Steps p.tables e below (T22.setTop (mkF m 28 #[.val (.ref a1)] [(.ref a1), (.ref a1)])) t → Steps p.tables e below (s₁.setTop (entryFrame m #[(.ref a1)] 1)) t := fun t k => J23 t (by
      show Steps p.tables e below (T22.setTop (mkF m 26 #[.val (.ref a1)] [])) _
      refine XS.aloadN X22.here hx rfl (hb hby d8_26) rfl rfl ?_
      show Steps p.tables e below (T22.setTop (mkF m 27 #[.val (.ref a1)] [(.ref a1)])) _
      refine XS.dup X22.here hx rfl (hb hby d8_27) rfl rfl ?_
      exact k)
  obtain ⟨T28, X28, e28, st28⟩ := getF X22 hx hZ hown (host := "") (Or.inl (hw _ (List.mem_of_getElem? (i := 23) rfl))) Via.refl e22 Fw22 (g := (mkF m 28 #[.val (.ref a1)] [(.ref a1), (.ref a1)])) rfl rfl (hb hby d8_28)
  have J29 : ∀ t, Steps p.tables e below (T28.setTop (mkF m 31 #[.val (.ref a1)] [(.long (own_rot x1 (13 : Int32))), (.ref a1)])) t → Steps p.tables e below (s₁.setTop (entryFrame m #[(.ref a1)] 1)) t := fun t k => J27 t (st28 t k)
  have J30 : ∀ t, Steps p.tables e below (T28.setTop (mkF m 32 #[.val (.ref a1)] [(.ref a1), (.long (own_rot x1 (13 : Int32))), (.ref a1)])) t → Steps p.tables e below (s₁.setTop (entryFrame m #[(.ref a1)] 1)) t := fun t k => J29 t (by
      show Steps p.tables e below (T28.setTop (mkF m 31 #[.val (.ref a1)] [(.long (own_rot x1 (13 : Int32))), (.ref a1)])) _
      refine XS.aloadN X28.here hx rfl (hb hby d8_31) rfl rfl ?_
      exact k)
  have f31 := Fw8.other W22 (Or.inr (slot_ne (Or.inl (hw _ (List.mem_of_getElem? (i := 21) rfl))) (Or.inl (hw _ (List.mem_of_getElem? (i := 24) rfl))) (by decide) (t := .long) (t' := .long) (by decide) (by decide)))
  obtain ⟨T32, X32, e32, st32⟩ := getF X28 hx hZ hown (host := "") (Or.inl (hw _ (List.mem_of_getElem? (i := 20) rfl))) Via.refl e28 f31 (g := (mkF m 32 #[.val (.ref a1)] [(.ref a1), (.long (own_rot x1 (13 : Int32))), (.ref a1)])) rfl rfl (hb hby d8_32)
  have J33 : ∀ t, Steps p.tables e below (T32.setTop (mkF m 35 #[.val (.ref a1)] [(.long (x0 + x1)), (.long (own_rot x1 (13 : Int32))), (.ref a1)])) t → Steps p.tables e below (s₁.setTop (entryFrame m #[(.ref a1)] 1)) t := fun t k => J30 t (st32 t k)
  have J34 : ∀ t, Steps p.tables e below (T32.setTop (mkF m 36 #[.val (.ref a1)] [(.long ((own_rot x1 (13 : Int32)) ^^^ (x0 + x1))), (.ref a1)])) t → Steps p.tables e below (s₁.setTop (entryFrame m #[(.ref a1)] 1)) t := fun t k => J33 t (by
      show Steps p.tables e below (T32.setTop (mkF m 35 #[.val (.ref a1)] [(.long (x0 + x1)), (.long (own_rot x1 (13 : Int32))), (.ref a1)])) _
      refine XS.lxor X32.here hx rfl (hb hby d8_35) rfl ?_
      exact k)
  have f35 := f21.wr W22
  obtain ⟨T36, h36, X36, e36, W36, st36⟩ := putF X32 hx hZ hown (host := "") (Or.inl (hw _ (List.mem_of_getElem? (i := 23) rfl))) Via.refl e32 Fw22 f35 (Or.inl (hw _ (List.mem_of_getElem? (i := 24) rfl))) (hw _ (List.mem_of_getElem? (i := 2) rfl)) (ty := .long) (by decide) rfl rfl (g := (mkF m 36 #[.val (.ref a1)] [(.long ((own_rot x1 (13 : Int32)) ^^^ (x0 + x1))), (.ref a1)])) rfl rfl (hb hby d8_36)
  have J37 : ∀ t, Steps p.tables e below (T36.setTop (mkF m 39 #[.val (.ref a1)] [])) t → Steps p.tables e below (s₁.setTop (entryFrame m #[(.ref a1)] 1)) t := fun t k => J34 t (st36 t k)
  have Z38 : n0 ≤ h36.size := Nat.le_trans Z24 (Keep.of_wr W36).1
  have KK39 : Keep h0 h36 [a1] := KK25.wr W36 (Or.inl (List.mem_of_getElem? (i := 0) rfl))
  have N40 := Fr.snoc X36 N26 g_a1
  have Fw36 := Fw22.same W36
  have J41 : ∀ t, Steps p.tables e below (T36.setTop (mkF m 41 #[.val (.ref a1)] [(.ref a1), (.ref a1)])) t → Steps p.tables e below (s₁.setTop (entryFrame m #[(.ref a1)] 1)) t := fun t k => J37 t (by
      show Steps p.tables e below (T36.setTop (mkF m 39 #[.val (.ref a1)] [])) _
      refine XS.aloadN X36.here hx rfl (hb hby d8_39) rfl rfl ?_
      show Steps p.tables e below (T36.setTop (mkF m 40 #[.val (.ref a1)] [(.ref a1)])) _
      refine XS.aloadN X36.here hx rfl (hb hby d8_40) rfl rfl ?_
      exact k)
  have f42 := f31.other W36 (Or.inr (slot_ne (Or.inl (hw _ (List.mem_of_getElem? (i := 21) rfl))) (Or.inl (hw _ (List.mem_of_getElem? (i := 24) rfl))) (by decide) (t := .long) (t' := .long) (by decide) (by decide)))
  obtain ⟨T43, X43, e43, st43⟩ := getF X36 hx hZ hown (host := "") (Or.inl (hw _ (List.mem_of_getElem? (i := 20) rfl))) Via.refl e36 f42 (g := (mkF m 41 #[.val (.ref a1)] [(.ref a1), (.ref a1)])) rfl rfl (hb hby d8_41)
  have J44 : ∀ t, Steps p.tables e below (T43.setTop (mkF m 44 #[.val (.ref a1)] [(.long (x0 + x1)), (.ref a1)])) t → Steps p.tables e below (s₁.setTop (entryFrame m #[(.ref a1)] 1)) t := fun t k => J41 t (st43 t k)
  have J45 : ∀ t, Steps p.tables e below (T43.setTop (mkF m 46 #[.val (.ref a1)] [(.int (32 : Int32)), (.long (x0 + x1)), (.ref a1)])) t → Steps p.tables e below (s₁.setTop (entryFrame m #[(.ref a1)] 1)) t := fun t k => J44 t (by
      show Steps p.tables e below (T43.setTop (mkF m 44 #[.val (.ref a1)] [(.long (x0 + x1)), (.ref a1)])) _
      refine XS.bipush X43.here hx rfl (hb hby d8_44) ?_
      exact k)
  obtain ⟨_, _, ⟨T46, L46, k46, n46⟩, -, X46, ⟨Lc46, hQ46, l46, y46, z46⟩, st46⟩ := Jvm.LawKit.callS X43 hx (y := (⟨"java/lang/Long", "rotateLeft", "(JI)J"⟩ : MethodName)) hown (mvT hZ (hw _ (List.mem_of_getElem? (i := 58) rfl))) (mvT hZ (hw _ (List.mem_of_getElem? (i := 59) rfl))) (mvT hZ (hw _ (List.mem_of_getElem? (i := 60) rfl))) (mvT hZ (hw _ (List.mem_of_getElem? (i := 61) rfl))) (by decide) (backOf (W := 1) (rm9 l Z a0 hw [] (x0 + x1) (32 : Int32) h36 n0 Z38 ) hZ (hw _ (List.mem_of_getElem? (i := 61) rfl)) (hw _ (List.mem_of_getElem? (i := 60) rfl)) (by decide) (by decide)) (g := (mkF m 46 #[.val (.ref a1)] [(.int (32 : Int32)), (.long (x0 + x1)), (.ref a1)])) rfl (by rw [hml]; rfl) (argsL := [(.long (x0 + x1)), (.int (32 : Int32))]) (rest := [(.ref a1)]) (lenOf pd_0 rfl) rfl (by show 2 * 0 + _ ≤ _; exact Nat.le_of_eq rfl) (hb hby d8_46) (fun _ _ => ⟨rfl, e43, (by decide : 0 + 0 ≤ _), (by decide : 0 + 0 ≤ _)⟩)
  dsimp only [Pt.U, Pt.locs, Pt.cells, Pt.slots] at X46 l46 y46 z46 st46 hQ46
  subst l46 y46 z46
  obtain ⟨rfl, Nq46, e46⟩ := hQ46
  have N47 := Fr.app N40 Nq46
  have J48 : ∀ t, Steps p.tables e below (T46.setTop (mkF m 49 #[.val (.ref a1)] [(.long (own_rot (x0 + x1) (32 : Int32))), (.ref a1)])) t → Steps p.tables e below (s₁.setTop (entryFrame m #[(.ref a1)] 1)) t := fun t k => J45 t (st46 t k)
  have f49 := f35.wr W36
  obtain ⟨T50, h50, X50, e50, W50, st50⟩ := putF X46 hx hZ hown (host := "") (Or.inl (hw _ (List.mem_of_getElem? (i := 20) rfl))) Via.refl e46 f42 f49 (Or.inl (hw _ (List.mem_of_getElem? (i := 21) rfl))) (hw _ (List.mem_of_getElem? (i := 2) rfl)) (ty := .long) (by decide) rfl rfl (g := (mkF m 49 #[.val (.ref a1)] [(.long (own_rot (x0 + x1) (32 : Int32))), (.ref a1)])) rfl rfl (hb hby d8_49)
  have J51 : ∀ t, Steps p.tables e below (T50.setTop (mkF m 52 #[.val (.ref a1)] [])) t → Steps p.tables e below (s₁.setTop (entryFrame m #[(.ref a1)] 1)) t := fun t k => J48 t (st50 t k)
  have Z52 : n0 ≤ h50.size := Nat.le_trans Z38 (Keep.of_wr W50).1
  have KK53 : Keep h0 h50 [a1] := KK39.wr W50 (Or.inl (List.mem_of_getElem? (i := 0) rfl))
  have N54 := Fr.snoc X50 N47 g_a1
  have Fw50 := f42.same W50
  have J55 : ∀ t, Steps p.tables e below (T50.setTop (mkF m 54 #[.val (.ref a1)] [(.ref a1), (.ref a1)])) t → Steps p.tables e below (s₁.setTop (entryFrame m #[(.ref a1)] 1)) t := fun t k => J51 t (by
      show Steps p.tables e below (T50.setTop (mkF m 52 #[.val (.ref a1)] [])) _
      refine XS.aloadN X50.here hx rfl (hb hby d8_52) rfl rfl ?_
      show Steps p.tables e below (T50.setTop (mkF m 53 #[.val (.ref a1)] [(.ref a1)])) _
      refine XS.dup X50.here hx rfl (hb hby d8_53) rfl rfl ?_
      exact k)
  have f56 := F_v2_a1.other W8 (Or.inr (slot_ne (Or.inl (hw _ (List.mem_of_getElem? (i := 27) rfl))) (Or.inl (hw _ (List.mem_of_getElem? (i := 21) rfl))) (by decide) (t := .long) (t' := .long) (by decide) (by decide)))
  have f57 := f56.other W22 (Or.inr (slot_ne (Or.inl (hw _ (List.mem_of_getElem? (i := 27) rfl))) (Or.inl (hw _ (List.mem_of_getElem? (i := 24) rfl))) (by decide) (t := .long) (t' := .long) (by decide) (by decide)))
  have f58 := f57.other W36 (Or.inr (slot_ne (Or.inl (hw _ (List.mem_of_getElem? (i := 27) rfl))) (Or.inl (hw _ (List.mem_of_getElem? (i := 24) rfl))) (by decide) (t := .long) (t' := .long) (by decide) (by decide)))
  have f59 := f58.other W50 (Or.inr (slot_ne (Or.inl (hw _ (List.mem_of_getElem? (i := 27) rfl))) (Or.inl (hw _ (List.mem_of_getElem? (i := 21) rfl))) (by decide) (t := .long) (t' := .long) (by decide) (by decide)))
  obtain ⟨T60, X60, e60, st60⟩ := getF X50 hx hZ hown (host := "") (Or.inl (hw _ (List.mem_of_getElem? (i := 26) rfl))) Via.refl e50 f59 (g := (mkF m 54 #[.val (.ref a1)] [(.ref a1), (.ref a1)])) rfl rfl (hb hby d8_54)
  have J61 : ∀ t, Steps p.tables e below (T60.setTop (mkF m 57 #[.val (.ref a1)] [(.long x2), (.ref a1)])) t → Steps p.tables e below (s₁.setTop (entryFrame m #[(.ref a1)] 1)) t := fun t k => J55 t (st60 t k)
  have J62 : ∀ t, Steps p.tables e below (T60.setTop (mkF m 58 #[.val (.ref a1)] [(.ref a1), (.long x2), (.ref a1)])) t → Steps p.tables e below (s₁.setTop (entryFrame m #[(.ref a1)] 1)) t := fun t k => J61 t (by
      show Steps p.tables e below (T60.setTop (mkF m 57 #[.val (.ref a1)] [(.long x2), (.ref a1)])) _
      refine XS.aloadN X60.here hx rfl (hb hby d8_57) rfl rfl ?_
      exact k)
  have f63 := F_v3_a1.other W8 (Or.inr (slot_ne (Or.inl (hw _ (List.mem_of_getElem? (i := 30) rfl))) (Or.inl (hw _ (List.mem_of_getElem? (i := 21) rfl))) (by decide) (t := .long) (t' := .long) (by decide) (by decide)))
  have f64 := f63.other W22 (Or.inr (slot_ne (Or.inl (hw _ (List.mem_of_getElem? (i := 30) rfl))) (Or.inl (hw _ (List.mem_of_getElem? (i := 24) rfl))) (by decide) (t := .long) (t' := .long) (by decide) (by decide)))
  have f65 := f64.other W36 (Or.inr (slot_ne (Or.inl (hw _ (List.mem_of_getElem? (i := 30) rfl))) (Or.inl (hw _ (List.mem_of_getElem? (i := 24) rfl))) (by decide) (t := .long) (t' := .long) (by decide) (by decide)))
  have f66 := f65.other W50 (Or.inr (slot_ne (Or.inl (hw _ (List.mem_of_getElem? (i := 30) rfl))) (Or.inl (hw _ (List.mem_of_getElem? (i := 21) rfl))) (by decide) (t := .long) (t' := .long) (by decide) (by decide)))
  obtain ⟨T67, X67, e67, st67⟩ := getF X60 hx hZ hown (host := "") (Or.inl (hw _ (List.mem_of_getElem? (i := 29) rfl))) Via.refl e60 f66 (g := (mkF m 58 #[.val (.ref a1)] [(.ref a1), (.long x2), (.ref a1)])) rfl rfl (hb hby d8_58)
  have J68 : ∀ t, Steps p.tables e below (T67.setTop (mkF m 61 #[.val (.ref a1)] [(.long x3), (.long x2), (.ref a1)])) t → Steps p.tables e below (s₁.setTop (entryFrame m #[(.ref a1)] 1)) t := fun t k => J62 t (st67 t k)
  have J69 : ∀ t, Steps p.tables e below (T67.setTop (mkF m 62 #[.val (.ref a1)] [(.long (x2 + x3)), (.ref a1)])) t → Steps p.tables e below (s₁.setTop (entryFrame m #[(.ref a1)] 1)) t := fun t k => J68 t (by
      show Steps p.tables e below (T67.setTop (mkF m 61 #[.val (.ref a1)] [(.long x3), (.long x2), (.ref a1)])) _
      refine XS.ladd X67.here hx rfl (hb hby d8_61) rfl ?_
      exact k)
  have f70 := f49.wr W50
  obtain ⟨T71, h71, X71, e71, W71, st71⟩ := putF X67 hx hZ hown (host := "") (Or.inl (hw _ (List.mem_of_getElem? (i := 26) rfl))) Via.refl e67 f59 f70 (Or.inl (hw _ (List.mem_of_getElem? (i := 27) rfl))) (hw _ (List.mem_of_getElem? (i := 2) rfl)) (ty := .long) (by decide) rfl rfl (g := (mkF m 62 #[.val (.ref a1)] [(.long (x2 + x3)), (.ref a1)])) rfl rfl (hb hby d8_62)
  have J72 : ∀ t, Steps p.tables e below (T71.setTop (mkF m 65 #[.val (.ref a1)] [])) t → Steps p.tables e below (s₁.setTop (entryFrame m #[(.ref a1)] 1)) t := fun t k => J69 t (st71 t k)
  have Z73 : n0 ≤ h71.size := Nat.le_trans Z52 (Keep.of_wr W71).1
  have KK74 : Keep h0 h71 [a1] := KK53.wr W71 (Or.inl (List.mem_of_getElem? (i := 0) rfl))
  have N75 := Fr.snoc X71 N54 g_a1
  have Fw71 := f59.same W71
  have J76 : ∀ t, Steps p.tables e below (T71.setTop (mkF m 67 #[.val (.ref a1)] [(.ref a1), (.ref a1)])) t → Steps p.tables e below (s₁.setTop (entryFrame m #[(.ref a1)] 1)) t := fun t k => J72 t (by
      show Steps p.tables e below (T71.setTop (mkF m 65 #[.val (.ref a1)] [])) _
      refine XS.aloadN X71.here hx rfl (hb hby d8_65) rfl rfl ?_
      show Steps p.tables e below (T71.setTop (mkF m 66 #[.val (.ref a1)] [(.ref a1)])) _
      refine XS.aloadN X71.here hx rfl (hb hby d8_66) rfl rfl ?_
      exact k)
  have f77 := f66.other W71 (Or.inr (slot_ne (Or.inl (hw _ (List.mem_of_getElem? (i := 30) rfl))) (Or.inl (hw _ (List.mem_of_getElem? (i := 27) rfl))) (by decide) (t := .long) (t' := .long) (by decide) (by decide)))
  obtain ⟨T78, X78, e78, st78⟩ := getF X71 hx hZ hown (host := "") (Or.inl (hw _ (List.mem_of_getElem? (i := 29) rfl))) Via.refl e71 f77 (g := (mkF m 67 #[.val (.ref a1)] [(.ref a1), (.ref a1)])) rfl rfl (hb hby d8_67)
  have J79 : ∀ t, Steps p.tables e below (T78.setTop (mkF m 70 #[.val (.ref a1)] [(.long x3), (.ref a1)])) t → Steps p.tables e below (s₁.setTop (entryFrame m #[(.ref a1)] 1)) t := fun t k => J76 t (st78 t k)
  have J80 : ∀ t, Steps p.tables e below (T78.setTop (mkF m 72 #[.val (.ref a1)] [(.int (16 : Int32)), (.long x3), (.ref a1)])) t → Steps p.tables e below (s₁.setTop (entryFrame m #[(.ref a1)] 1)) t := fun t k => J79 t (by
      show Steps p.tables e below (T78.setTop (mkF m 70 #[.val (.ref a1)] [(.long x3), (.ref a1)])) _
      refine XS.bipush X78.here hx rfl (hb hby d8_70) ?_
      exact k)
  obtain ⟨_, _, ⟨T81, L81, k81, n81⟩, -, X81, ⟨Lc81, hQ81, l81, y81, z81⟩, st81⟩ := Jvm.LawKit.callS X78 hx (y := (⟨"java/lang/Long", "rotateLeft", "(JI)J"⟩ : MethodName)) hown (mvT hZ (hw _ (List.mem_of_getElem? (i := 58) rfl))) (mvT hZ (hw _ (List.mem_of_getElem? (i := 59) rfl))) (mvT hZ (hw _ (List.mem_of_getElem? (i := 60) rfl))) (mvT hZ (hw _ (List.mem_of_getElem? (i := 61) rfl))) (by decide) (backOf (W := 1) (rm9 l Z a0 hw [] x3 (16 : Int32) h71 n0 Z73 ) hZ (hw _ (List.mem_of_getElem? (i := 61) rfl)) (hw _ (List.mem_of_getElem? (i := 60) rfl)) (by decide) (by decide)) (g := (mkF m 72 #[.val (.ref a1)] [(.int (16 : Int32)), (.long x3), (.ref a1)])) rfl (by rw [hml]; rfl) (argsL := [(.long x3), (.int (16 : Int32))]) (rest := [(.ref a1)]) (lenOf pd_0 rfl) rfl (by show 2 * 0 + _ ≤ _; exact Nat.le_of_eq rfl) (hb hby d8_72) (fun _ _ => ⟨rfl, e78, (by decide : 0 + 0 ≤ _), (by decide : 0 + 0 ≤ _)⟩)
  dsimp only [Pt.U, Pt.locs, Pt.cells, Pt.slots] at X81 l81 y81 z81 st81 hQ81
  subst l81 y81 z81
  obtain ⟨rfl, Nq81, e81⟩ := hQ81
  have N82 := Fr.app N75 Nq81
  have J83 : ∀ t, Steps p.tables e below (T81.setTop (mkF m 75 #[.val (.ref a1)] [(.long (own_rot x3 (16 : Int32))), (.ref a1)])) t → Steps p.tables e below (s₁.setTop (entryFrame m #[(.ref a1)] 1)) t := fun t k => J80 t (st81 t k)
  have f84 := f70.wr W71
  obtain ⟨T85, h85, X85, e85, W85, st85⟩ := putF X81 hx hZ hown (host := "") (Or.inl (hw _ (List.mem_of_getElem? (i := 29) rfl))) Via.refl e81 f77 f84 (Or.inl (hw _ (List.mem_of_getElem? (i := 30) rfl))) (hw _ (List.mem_of_getElem? (i := 2) rfl)) (ty := .long) (by decide) rfl rfl (g := (mkF m 75 #[.val (.ref a1)] [(.long (own_rot x3 (16 : Int32))), (.ref a1)])) rfl rfl (hb hby d8_75)
  have J86 : ∀ t, Steps p.tables e below (T85.setTop (mkF m 78 #[.val (.ref a1)] [])) t → Steps p.tables e below (s₁.setTop (entryFrame m #[(.ref a1)] 1)) t := fun t k => J83 t (st85 t k)
  have Z87 : n0 ≤ h85.size := Nat.le_trans Z73 (Keep.of_wr W85).1
  have KK88 : Keep h0 h85 [a1] := KK74.wr W85 (Or.inl (List.mem_of_getElem? (i := 0) rfl))
  have N89 := Fr.snoc X85 N82 g_a1
  have Fw85 := f77.same W85
  have J90 : ∀ t, Steps p.tables e below (T85.setTop (mkF m 80 #[.val (.ref a1)] [(.ref a1), (.ref a1)])) t → Steps p.tables e below (s₁.setTop (entryFrame m #[(.ref a1)] 1)) t := fun t k => J86 t (by
      show Steps p.tables e below (T85.setTop (mkF m 78 #[.val (.ref a1)] [])) _
      refine XS.aloadN X85.here hx rfl (hb hby d8_78) rfl rfl ?_
      show Steps p.tables e below (T85.setTop (mkF m 79 #[.val (.ref a1)] [(.ref a1)])) _
      refine XS.dup X85.here hx rfl (hb hby d8_79) rfl rfl ?_
      exact k)
  obtain ⟨T91, X91, e91, st91⟩ := getF X85 hx hZ hown (host := "") (Or.inl (hw _ (List.mem_of_getElem? (i := 29) rfl))) Via.refl e85 Fw85 (g := (mkF m 80 #[.val (.ref a1)] [(.ref a1), (.ref a1)])) rfl rfl (hb hby d8_80)
  have J92 : ∀ t, Steps p.tables e below (T91.setTop (mkF m 83 #[.val (.ref a1)] [(.long (own_rot x3 (16 : Int32))), (.ref a1)])) t → Steps p.tables e below (s₁.setTop (entryFrame m #[(.ref a1)] 1)) t := fun t k => J90 t (st91 t k)
  have J93 : ∀ t, Steps p.tables e below (T91.setTop (mkF m 84 #[.val (.ref a1)] [(.ref a1), (.long (own_rot x3 (16 : Int32))), (.ref a1)])) t → Steps p.tables e below (s₁.setTop (entryFrame m #[(.ref a1)] 1)) t := fun t k => J92 t (by
      show Steps p.tables e below (T91.setTop (mkF m 83 #[.val (.ref a1)] [(.long (own_rot x3 (16 : Int32))), (.ref a1)])) _
      refine XS.aloadN X91.here hx rfl (hb hby d8_83) rfl rfl ?_
      exact k)
  have f94 := Fw71.other W85 (Or.inr (slot_ne (Or.inl (hw _ (List.mem_of_getElem? (i := 27) rfl))) (Or.inl (hw _ (List.mem_of_getElem? (i := 30) rfl))) (by decide) (t := .long) (t' := .long) (by decide) (by decide)))
  obtain ⟨T95, X95, e95, st95⟩ := getF X91 hx hZ hown (host := "") (Or.inl (hw _ (List.mem_of_getElem? (i := 26) rfl))) Via.refl e91 f94 (g := (mkF m 84 #[.val (.ref a1)] [(.ref a1), (.long (own_rot x3 (16 : Int32))), (.ref a1)])) rfl rfl (hb hby d8_84)
  have J96 : ∀ t, Steps p.tables e below (T95.setTop (mkF m 87 #[.val (.ref a1)] [(.long (x2 + x3)), (.long (own_rot x3 (16 : Int32))), (.ref a1)])) t → Steps p.tables e below (s₁.setTop (entryFrame m #[(.ref a1)] 1)) t := fun t k => J93 t (st95 t k)
  have J97 : ∀ t, Steps p.tables e below (T95.setTop (mkF m 88 #[.val (.ref a1)] [(.long ((own_rot x3 (16 : Int32)) ^^^ (x2 + x3))), (.ref a1)])) t → Steps p.tables e below (s₁.setTop (entryFrame m #[(.ref a1)] 1)) t := fun t k => J96 t (by
      show Steps p.tables e below (T95.setTop (mkF m 87 #[.val (.ref a1)] [(.long (x2 + x3)), (.long (own_rot x3 (16 : Int32))), (.ref a1)])) _
      refine XS.lxor X95.here hx rfl (hb hby d8_87) rfl ?_
      exact k)
  have f98 := f84.wr W85
  obtain ⟨T99, h99, X99, e99, W99, st99⟩ := putF X95 hx hZ hown (host := "") (Or.inl (hw _ (List.mem_of_getElem? (i := 29) rfl))) Via.refl e95 Fw85 f98 (Or.inl (hw _ (List.mem_of_getElem? (i := 30) rfl))) (hw _ (List.mem_of_getElem? (i := 2) rfl)) (ty := .long) (by decide) rfl rfl (g := (mkF m 88 #[.val (.ref a1)] [(.long ((own_rot x3 (16 : Int32)) ^^^ (x2 + x3))), (.ref a1)])) rfl rfl (hb hby d8_88)
  have J100 : ∀ t, Steps p.tables e below (T99.setTop (mkF m 91 #[.val (.ref a1)] [])) t → Steps p.tables e below (s₁.setTop (entryFrame m #[(.ref a1)] 1)) t := fun t k => J97 t (st99 t k)
  have Z101 : n0 ≤ h99.size := Nat.le_trans Z87 (Keep.of_wr W99).1
  have KK102 : Keep h0 h99 [a1] := KK88.wr W99 (Or.inl (List.mem_of_getElem? (i := 0) rfl))
  have N103 := Fr.snoc X99 N89 g_a1
  have Fw99 := Fw85.same W99
  have J104 : ∀ t, Steps p.tables e below (T99.setTop (mkF m 93 #[.val (.ref a1)] [(.ref a1), (.ref a1)])) t → Steps p.tables e below (s₁.setTop (entryFrame m #[(.ref a1)] 1)) t := fun t k => J100 t (by
      show Steps p.tables e below (T99.setTop (mkF m 91 #[.val (.ref a1)] [])) _
      refine XS.aloadN X99.here hx rfl (hb hby d8_91) rfl rfl ?_
      show Steps p.tables e below (T99.setTop (mkF m 92 #[.val (.ref a1)] [(.ref a1)])) _
      refine XS.dup X99.here hx rfl (hb hby d8_92) rfl rfl ?_
      exact k)
  have f105 := Fw50.other W71 (Or.inr (slot_ne (Or.inl (hw _ (List.mem_of_getElem? (i := 21) rfl))) (Or.inl (hw _ (List.mem_of_getElem? (i := 27) rfl))) (by decide) (t := .long) (t' := .long) (by decide) (by decide)))
  have f106 := f105.other W85 (Or.inr (slot_ne (Or.inl (hw _ (List.mem_of_getElem? (i := 21) rfl))) (Or.inl (hw _ (List.mem_of_getElem? (i := 30) rfl))) (by decide) (t := .long) (t' := .long) (by decide) (by decide)))
  have f107 := f106.other W99 (Or.inr (slot_ne (Or.inl (hw _ (List.mem_of_getElem? (i := 21) rfl))) (Or.inl (hw _ (List.mem_of_getElem? (i := 30) rfl))) (by decide) (t := .long) (t' := .long) (by decide) (by decide)))
  obtain ⟨T108, X108, e108, st108⟩ := getF X99 hx hZ hown (host := "") (Or.inl (hw _ (List.mem_of_getElem? (i := 20) rfl))) Via.refl e99 f107 (g := (mkF m 93 #[.val (.ref a1)] [(.ref a1), (.ref a1)])) rfl rfl (hb hby d8_93)
  have J109 : ∀ t, Steps p.tables e below (T108.setTop (mkF m 96 #[.val (.ref a1)] [(.long (own_rot (x0 + x1) (32 : Int32))), (.ref a1)])) t → Steps p.tables e below (s₁.setTop (entryFrame m #[(.ref a1)] 1)) t := fun t k => J104 t (st108 t k)
  have J110 : ∀ t, Steps p.tables e below (T108.setTop (mkF m 97 #[.val (.ref a1)] [(.ref a1), (.long (own_rot (x0 + x1) (32 : Int32))), (.ref a1)])) t → Steps p.tables e below (s₁.setTop (entryFrame m #[(.ref a1)] 1)) t := fun t k => J109 t (by
      show Steps p.tables e below (T108.setTop (mkF m 96 #[.val (.ref a1)] [(.long (own_rot (x0 + x1) (32 : Int32))), (.ref a1)])) _
      refine XS.aloadN X108.here hx rfl (hb hby d8_96) rfl rfl ?_
      exact k)
  obtain ⟨T111, X111, e111, st111⟩ := getF X108 hx hZ hown (host := "") (Or.inl (hw _ (List.mem_of_getElem? (i := 29) rfl))) Via.refl e108 Fw99 (g := (mkF m 97 #[.val (.ref a1)] [(.ref a1), (.long (own_rot (x0 + x1) (32 : Int32))), (.ref a1)])) rfl rfl (hb hby d8_97)
  have J112 : ∀ t, Steps p.tables e below (T111.setTop (mkF m 100 #[.val (.ref a1)] [(.long ((own_rot x3 (16 : Int32)) ^^^ (x2 + x3))), (.long (own_rot (x0 + x1) (32 : Int32))), (.ref a1)])) t → Steps p.tables e below (s₁.setTop (entryFrame m #[(.ref a1)] 1)) t := fun t k => J110 t (st111 t k)
  have J113 : ∀ t, Steps p.tables e below (T111.setTop (mkF m 101 #[.val (.ref a1)] [(.long ((own_rot (x0 + x1) (32 : Int32)) + ((own_rot x3 (16 : Int32)) ^^^ (x2 + x3)))), (.ref a1)])) t → Steps p.tables e below (s₁.setTop (entryFrame m #[(.ref a1)] 1)) t := fun t k => J112 t (by
      show Steps p.tables e below (T111.setTop (mkF m 100 #[.val (.ref a1)] [(.long ((own_rot x3 (16 : Int32)) ^^^ (x2 + x3))), (.long (own_rot (x0 + x1) (32 : Int32))), (.ref a1)])) _
      refine XS.ladd X111.here hx rfl (hb hby d8_100) rfl ?_
      exact k)
  have f114 := f98.wr W99
  obtain ⟨T115, h115, X115, e115, W115, st115⟩ := putF X111 hx hZ hown (host := "") (Or.inl (hw _ (List.mem_of_getElem? (i := 20) rfl))) Via.refl e111 f107 f114 (Or.inl (hw _ (List.mem_of_getElem? (i := 21) rfl))) (hw _ (List.mem_of_getElem? (i := 2) rfl)) (ty := .long) (by decide) rfl rfl (g := (mkF m 101 #[.val (.ref a1)] [(.long ((own_rot (x0 + x1) (32 : Int32)) + ((own_rot x3 (16 : Int32)) ^^^ (x2 + x3)))), (.ref a1)])) rfl rfl (hb hby d8_101)
  have J116 : ∀ t, Steps p.tables e below (T115.setTop (mkF m 104 #[.val (.ref a1)] [])) t → Steps p.tables e below (s₁.setTop (entryFrame m #[(.ref a1)] 1)) t := fun t k => J113 t (st115 t k)
  have Z117 : n0 ≤ h115.size := Nat.le_trans Z101 (Keep.of_wr W115).1
  have KK118 : Keep h0 h115 [a1] := KK102.wr W115 (Or.inl (List.mem_of_getElem? (i := 0) rfl))
  have N119 := Fr.snoc X115 N103 g_a1
  have Fw115 := f107.same W115
  have J120 : ∀ t, Steps p.tables e below (T115.setTop (mkF m 106 #[.val (.ref a1)] [(.ref a1), (.ref a1)])) t → Steps p.tables e below (s₁.setTop (entryFrame m #[(.ref a1)] 1)) t := fun t k => J116 t (by
      show Steps p.tables e below (T115.setTop (mkF m 104 #[.val (.ref a1)] [])) _
      refine XS.aloadN X115.here hx rfl (hb hby d8_104) rfl rfl ?_
      show Steps p.tables e below (T115.setTop (mkF m 105 #[.val (.ref a1)] [(.ref a1)])) _
      refine XS.aloadN X115.here hx rfl (hb hby d8_105) rfl rfl ?_
      exact k)
  have f121 := Fw99.other W115 (Or.inr (slot_ne (Or.inl (hw _ (List.mem_of_getElem? (i := 30) rfl))) (Or.inl (hw _ (List.mem_of_getElem? (i := 21) rfl))) (by decide) (t := .long) (t' := .long) (by decide) (by decide)))
  obtain ⟨T122, X122, e122, st122⟩ := getF X115 hx hZ hown (host := "") (Or.inl (hw _ (List.mem_of_getElem? (i := 29) rfl))) Via.refl e115 f121 (g := (mkF m 106 #[.val (.ref a1)] [(.ref a1), (.ref a1)])) rfl rfl (hb hby d8_106)
  have J123 : ∀ t, Steps p.tables e below (T122.setTop (mkF m 109 #[.val (.ref a1)] [(.long ((own_rot x3 (16 : Int32)) ^^^ (x2 + x3))), (.ref a1)])) t → Steps p.tables e below (s₁.setTop (entryFrame m #[(.ref a1)] 1)) t := fun t k => J120 t (st122 t k)
  have J124 : ∀ t, Steps p.tables e below (T122.setTop (mkF m 111 #[.val (.ref a1)] [(.int (21 : Int32)), (.long ((own_rot x3 (16 : Int32)) ^^^ (x2 + x3))), (.ref a1)])) t → Steps p.tables e below (s₁.setTop (entryFrame m #[(.ref a1)] 1)) t := fun t k => J123 t (by
      show Steps p.tables e below (T122.setTop (mkF m 109 #[.val (.ref a1)] [(.long ((own_rot x3 (16 : Int32)) ^^^ (x2 + x3))), (.ref a1)])) _
      refine XS.bipush X122.here hx rfl (hb hby d8_109) ?_
      exact k)
  obtain ⟨_, _, ⟨T125, L125, k125, n125⟩, -, X125, ⟨Lc125, hQ125, l125, y125, z125⟩, st125⟩ := Jvm.LawKit.callS X122 hx (y := (⟨"java/lang/Long", "rotateLeft", "(JI)J"⟩ : MethodName)) hown (mvT hZ (hw _ (List.mem_of_getElem? (i := 58) rfl))) (mvT hZ (hw _ (List.mem_of_getElem? (i := 59) rfl))) (mvT hZ (hw _ (List.mem_of_getElem? (i := 60) rfl))) (mvT hZ (hw _ (List.mem_of_getElem? (i := 61) rfl))) (by decide) (backOf (W := 1) (rm9 l Z a0 hw [] ((own_rot x3 (16 : Int32)) ^^^ (x2 + x3)) (21 : Int32) h115 n0 Z117 ) hZ (hw _ (List.mem_of_getElem? (i := 61) rfl)) (hw _ (List.mem_of_getElem? (i := 60) rfl)) (by decide) (by decide)) (g := (mkF m 111 #[.val (.ref a1)] [(.int (21 : Int32)), (.long ((own_rot x3 (16 : Int32)) ^^^ (x2 + x3))), (.ref a1)])) rfl (by rw [hml]; rfl) (argsL := [(.long ((own_rot x3 (16 : Int32)) ^^^ (x2 + x3))), (.int (21 : Int32))]) (rest := [(.ref a1)]) (lenOf pd_0 rfl) rfl (by show 2 * 0 + _ ≤ _; exact Nat.le_of_eq rfl) (hb hby d8_111) (fun _ _ => ⟨rfl, e122, (by decide : 0 + 0 ≤ _), (by decide : 0 + 0 ≤ _)⟩)
  dsimp only [Pt.U, Pt.locs, Pt.cells, Pt.slots] at X125 l125 y125 z125 st125 hQ125
  subst l125 y125 z125
  obtain ⟨rfl, Nq125, e125⟩ := hQ125
  have N126 := Fr.app N119 Nq125
  have J127 : ∀ t, Steps p.tables e below (T125.setTop (mkF m 114 #[.val (.ref a1)] [(.long (own_rot ((own_rot x3 (16 : Int32)) ^^^ (x2 + x3)) (21 : Int32))), (.ref a1)])) t → Steps p.tables e below (s₁.setTop (entryFrame m #[(.ref a1)] 1)) t := fun t k => J124 t (st125 t k)
  have f128 := f114.wr W115
  obtain ⟨T129, h129, X129, e129, W129, st129⟩ := putF X125 hx hZ hown (host := "") (Or.inl (hw _ (List.mem_of_getElem? (i := 29) rfl))) Via.refl e125 f121 f128 (Or.inl (hw _ (List.mem_of_getElem? (i := 30) rfl))) (hw _ (List.mem_of_getElem? (i := 2) rfl)) (ty := .long) (by decide) rfl rfl (g := (mkF m 114 #[.val (.ref a1)] [(.long (own_rot ((own_rot x3 (16 : Int32)) ^^^ (x2 + x3)) (21 : Int32))), (.ref a1)])) rfl rfl (hb hby d8_114)
  have J130 : ∀ t, Steps p.tables e below (T129.setTop (mkF m 117 #[.val (.ref a1)] [])) t → Steps p.tables e below (s₁.setTop (entryFrame m #[(.ref a1)] 1)) t := fun t k => J127 t (st129 t k)
  have Z131 : n0 ≤ h129.size := Nat.le_trans Z117 (Keep.of_wr W129).1
  have KK132 : Keep h0 h129 [a1] := KK118.wr W129 (Or.inl (List.mem_of_getElem? (i := 0) rfl))
  have N133 := Fr.snoc X129 N126 g_a1
  have Fw129 := f121.same W129
  have J134 : ∀ t, Steps p.tables e below (T129.setTop (mkF m 119 #[.val (.ref a1)] [(.ref a1), (.ref a1)])) t → Steps p.tables e below (s₁.setTop (entryFrame m #[(.ref a1)] 1)) t := fun t k => J130 t (by
      show Steps p.tables e below (T129.setTop (mkF m 117 #[.val (.ref a1)] [])) _
      refine XS.aloadN X129.here hx rfl (hb hby d8_117) rfl rfl ?_
      show Steps p.tables e below (T129.setTop (mkF m 118 #[.val (.ref a1)] [(.ref a1)])) _
      refine XS.dup X129.here hx rfl (hb hby d8_118) rfl rfl ?_
      exact k)
  obtain ⟨T135, X135, e135, st135⟩ := getF X129 hx hZ hown (host := "") (Or.inl (hw _ (List.mem_of_getElem? (i := 29) rfl))) Via.refl e129 Fw129 (g := (mkF m 119 #[.val (.ref a1)] [(.ref a1), (.ref a1)])) rfl rfl (hb hby d8_119)
  have J136 : ∀ t, Steps p.tables e below (T135.setTop (mkF m 122 #[.val (.ref a1)] [(.long (own_rot ((own_rot x3 (16 : Int32)) ^^^ (x2 + x3)) (21 : Int32))), (.ref a1)])) t → Steps p.tables e below (s₁.setTop (entryFrame m #[(.ref a1)] 1)) t := fun t k => J134 t (st135 t k)
  have J137 : ∀ t, Steps p.tables e below (T135.setTop (mkF m 123 #[.val (.ref a1)] [(.ref a1), (.long (own_rot ((own_rot x3 (16 : Int32)) ^^^ (x2 + x3)) (21 : Int32))), (.ref a1)])) t → Steps p.tables e below (s₁.setTop (entryFrame m #[(.ref a1)] 1)) t := fun t k => J136 t (by
      show Steps p.tables e below (T135.setTop (mkF m 122 #[.val (.ref a1)] [(.long (own_rot ((own_rot x3 (16 : Int32)) ^^^ (x2 + x3)) (21 : Int32))), (.ref a1)])) _
      refine XS.aloadN X135.here hx rfl (hb hby d8_122) rfl rfl ?_
      exact k)
  have f138 := Fw115.other W129 (Or.inr (slot_ne (Or.inl (hw _ (List.mem_of_getElem? (i := 21) rfl))) (Or.inl (hw _ (List.mem_of_getElem? (i := 30) rfl))) (by decide) (t := .long) (t' := .long) (by decide) (by decide)))
  obtain ⟨T139, X139, e139, st139⟩ := getF X135 hx hZ hown (host := "") (Or.inl (hw _ (List.mem_of_getElem? (i := 20) rfl))) Via.refl e135 f138 (g := (mkF m 123 #[.val (.ref a1)] [(.ref a1), (.long (own_rot ((own_rot x3 (16 : Int32)) ^^^ (x2 + x3)) (21 : Int32))), (.ref a1)])) rfl rfl (hb hby d8_123)
  have J140 : ∀ t, Steps p.tables e below (T139.setTop (mkF m 126 #[.val (.ref a1)] [(.long ((own_rot (x0 + x1) (32 : Int32)) + ((own_rot x3 (16 : Int32)) ^^^ (x2 + x3)))), (.long (own_rot ((own_rot x3 (16 : Int32)) ^^^ (x2 + x3)) (21 : Int32))), (.ref a1)])) t → Steps p.tables e below (s₁.setTop (entryFrame m #[(.ref a1)] 1)) t := fun t k => J137 t (st139 t k)
  have J141 : ∀ t, Steps p.tables e below (T139.setTop (mkF m 127 #[.val (.ref a1)] [(.long ((own_rot ((own_rot x3 (16 : Int32)) ^^^ (x2 + x3)) (21 : Int32)) ^^^ ((own_rot (x0 + x1) (32 : Int32)) + ((own_rot x3 (16 : Int32)) ^^^ (x2 + x3))))), (.ref a1)])) t → Steps p.tables e below (s₁.setTop (entryFrame m #[(.ref a1)] 1)) t := fun t k => J140 t (by
      show Steps p.tables e below (T139.setTop (mkF m 126 #[.val (.ref a1)] [(.long ((own_rot (x0 + x1) (32 : Int32)) + ((own_rot x3 (16 : Int32)) ^^^ (x2 + x3)))), (.long (own_rot ((own_rot x3 (16 : Int32)) ^^^ (x2 + x3)) (21 : Int32))), (.ref a1)])) _
      refine XS.lxor X139.here hx rfl (hb hby d8_126) rfl ?_
      exact k)
  have f142 := f128.wr W129
  obtain ⟨T143, h143, X143, e143, W143, st143⟩ := putF X139 hx hZ hown (host := "") (Or.inl (hw _ (List.mem_of_getElem? (i := 29) rfl))) Via.refl e139 Fw129 f142 (Or.inl (hw _ (List.mem_of_getElem? (i := 30) rfl))) (hw _ (List.mem_of_getElem? (i := 2) rfl)) (ty := .long) (by decide) rfl rfl (g := (mkF m 127 #[.val (.ref a1)] [(.long ((own_rot ((own_rot x3 (16 : Int32)) ^^^ (x2 + x3)) (21 : Int32)) ^^^ ((own_rot (x0 + x1) (32 : Int32)) + ((own_rot x3 (16 : Int32)) ^^^ (x2 + x3))))), (.ref a1)])) rfl rfl (hb hby d8_127)
  have J144 : ∀ t, Steps p.tables e below (T143.setTop (mkF m 130 #[.val (.ref a1)] [])) t → Steps p.tables e below (s₁.setTop (entryFrame m #[(.ref a1)] 1)) t := fun t k => J141 t (st143 t k)
  have Z145 : n0 ≤ h143.size := Nat.le_trans Z131 (Keep.of_wr W143).1
  have KK146 : Keep h0 h143 [a1] := KK132.wr W143 (Or.inl (List.mem_of_getElem? (i := 0) rfl))
  have N147 := Fr.snoc X143 N133 g_a1
  have Fw143 := Fw129.same W143
  have J148 : ∀ t, Steps p.tables e below (T143.setTop (mkF m 132 #[.val (.ref a1)] [(.ref a1), (.ref a1)])) t → Steps p.tables e below (s₁.setTop (entryFrame m #[(.ref a1)] 1)) t := fun t k => J144 t (by
      show Steps p.tables e below (T143.setTop (mkF m 130 #[.val (.ref a1)] [])) _
      refine XS.aloadN X143.here hx rfl (hb hby d8_130) rfl rfl ?_
      show Steps p.tables e below (T143.setTop (mkF m 131 #[.val (.ref a1)] [(.ref a1)])) _
      refine XS.dup X143.here hx rfl (hb hby d8_131) rfl rfl ?_
      exact k)
  have f149 := f94.other W99 (Or.inr (slot_ne (Or.inl (hw _ (List.mem_of_getElem? (i := 27) rfl))) (Or.inl (hw _ (List.mem_of_getElem? (i := 30) rfl))) (by decide) (t := .long) (t' := .long) (by decide) (by decide)))
  have f150 := f149.other W115 (Or.inr (slot_ne (Or.inl (hw _ (List.mem_of_getElem? (i := 27) rfl))) (Or.inl (hw _ (List.mem_of_getElem? (i := 21) rfl))) (by decide) (t := .long) (t' := .long) (by decide) (by decide)))
  have f151 := f150.other W129 (Or.inr (slot_ne (Or.inl (hw _ (List.mem_of_getElem? (i := 27) rfl))) (Or.inl (hw _ (List.mem_of_getElem? (i := 30) rfl))) (by decide) (t := .long) (t' := .long) (by decide) (by decide)))
  have f152 := f151.other W143 (Or.inr (slot_ne (Or.inl (hw _ (List.mem_of_getElem? (i := 27) rfl))) (Or.inl (hw _ (List.mem_of_getElem? (i := 30) rfl))) (by decide) (t := .long) (t' := .long) (by decide) (by decide)))
  obtain ⟨T153, X153, e153, st153⟩ := getF X143 hx hZ hown (host := "") (Or.inl (hw _ (List.mem_of_getElem? (i := 26) rfl))) Via.refl e143 f152 (g := (mkF m 132 #[.val (.ref a1)] [(.ref a1), (.ref a1)])) rfl rfl (hb hby d8_132)
  have J154 : ∀ t, Steps p.tables e below (T153.setTop (mkF m 135 #[.val (.ref a1)] [(.long (x2 + x3)), (.ref a1)])) t → Steps p.tables e below (s₁.setTop (entryFrame m #[(.ref a1)] 1)) t := fun t k => J148 t (st153 t k)
  have J155 : ∀ t, Steps p.tables e below (T153.setTop (mkF m 136 #[.val (.ref a1)] [(.ref a1), (.long (x2 + x3)), (.ref a1)])) t → Steps p.tables e below (s₁.setTop (entryFrame m #[(.ref a1)] 1)) t := fun t k => J154 t (by
      show Steps p.tables e below (T153.setTop (mkF m 135 #[.val (.ref a1)] [(.long (x2 + x3)), (.ref a1)])) _
      refine XS.aloadN X153.here hx rfl (hb hby d8_135) rfl rfl ?_
      exact k)
  have f156 := Fw36.other W50 (Or.inr (slot_ne (Or.inl (hw _ (List.mem_of_getElem? (i := 24) rfl))) (Or.inl (hw _ (List.mem_of_getElem? (i := 21) rfl))) (by decide) (t := .long) (t' := .long) (by decide) (by decide)))
  have f157 := f156.other W71 (Or.inr (slot_ne (Or.inl (hw _ (List.mem_of_getElem? (i := 24) rfl))) (Or.inl (hw _ (List.mem_of_getElem? (i := 27) rfl))) (by decide) (t := .long) (t' := .long) (by decide) (by decide)))
  have f158 := f157.other W85 (Or.inr (slot_ne (Or.inl (hw _ (List.mem_of_getElem? (i := 24) rfl))) (Or.inl (hw _ (List.mem_of_getElem? (i := 30) rfl))) (by decide) (t := .long) (t' := .long) (by decide) (by decide)))
  have f159 := f158.other W99 (Or.inr (slot_ne (Or.inl (hw _ (List.mem_of_getElem? (i := 24) rfl))) (Or.inl (hw _ (List.mem_of_getElem? (i := 30) rfl))) (by decide) (t := .long) (t' := .long) (by decide) (by decide)))
  have f160 := f159.other W115 (Or.inr (slot_ne (Or.inl (hw _ (List.mem_of_getElem? (i := 24) rfl))) (Or.inl (hw _ (List.mem_of_getElem? (i := 21) rfl))) (by decide) (t := .long) (t' := .long) (by decide) (by decide)))
  have f161 := f160.other W129 (Or.inr (slot_ne (Or.inl (hw _ (List.mem_of_getElem? (i := 24) rfl))) (Or.inl (hw _ (List.mem_of_getElem? (i := 30) rfl))) (by decide) (t := .long) (t' := .long) (by decide) (by decide)))
  have f162 := f161.other W143 (Or.inr (slot_ne (Or.inl (hw _ (List.mem_of_getElem? (i := 24) rfl))) (Or.inl (hw _ (List.mem_of_getElem? (i := 30) rfl))) (by decide) (t := .long) (t' := .long) (by decide) (by decide)))
  obtain ⟨T163, X163, e163, st163⟩ := getF X153 hx hZ hown (host := "") (Or.inl (hw _ (List.mem_of_getElem? (i := 23) rfl))) Via.refl e153 f162 (g := (mkF m 136 #[.val (.ref a1)] [(.ref a1), (.long (x2 + x3)), (.ref a1)])) rfl rfl (hb hby d8_136)
  have J164 : ∀ t, Steps p.tables e below (T163.setTop (mkF m 139 #[.val (.ref a1)] [(.long ((own_rot x1 (13 : Int32)) ^^^ (x0 + x1))), (.long (x2 + x3)), (.ref a1)])) t → Steps p.tables e below (s₁.setTop (entryFrame m #[(.ref a1)] 1)) t := fun t k => J155 t (st163 t k)
  have J165 : ∀ t, Steps p.tables e below (T163.setTop (mkF m 140 #[.val (.ref a1)] [(.long ((x2 + x3) + ((own_rot x1 (13 : Int32)) ^^^ (x0 + x1)))), (.ref a1)])) t → Steps p.tables e below (s₁.setTop (entryFrame m #[(.ref a1)] 1)) t := fun t k => J164 t (by
      show Steps p.tables e below (T163.setTop (mkF m 139 #[.val (.ref a1)] [(.long ((own_rot x1 (13 : Int32)) ^^^ (x0 + x1))), (.long (x2 + x3)), (.ref a1)])) _
      refine XS.ladd X163.here hx rfl (hb hby d8_139) rfl ?_
      exact k)
  have f166 := f142.wr W143
  obtain ⟨T167, h167, X167, e167, W167, st167⟩ := putF X163 hx hZ hown (host := "") (Or.inl (hw _ (List.mem_of_getElem? (i := 26) rfl))) Via.refl e163 f152 f166 (Or.inl (hw _ (List.mem_of_getElem? (i := 27) rfl))) (hw _ (List.mem_of_getElem? (i := 2) rfl)) (ty := .long) (by decide) rfl rfl (g := (mkF m 140 #[.val (.ref a1)] [(.long ((x2 + x3) + ((own_rot x1 (13 : Int32)) ^^^ (x0 + x1)))), (.ref a1)])) rfl rfl (hb hby d8_140)
  have J168 : ∀ t, Steps p.tables e below (T167.setTop (mkF m 143 #[.val (.ref a1)] [])) t → Steps p.tables e below (s₁.setTop (entryFrame m #[(.ref a1)] 1)) t := fun t k => J165 t (st167 t k)
  have Z169 : n0 ≤ h167.size := Nat.le_trans Z145 (Keep.of_wr W167).1
  have KK170 : Keep h0 h167 [a1] := KK146.wr W167 (Or.inl (List.mem_of_getElem? (i := 0) rfl))
  have N171 := Fr.snoc X167 N147 g_a1
  have Fw167 := f152.same W167
  have J172 : ∀ t, Steps p.tables e below (T167.setTop (mkF m 145 #[.val (.ref a1)] [(.ref a1), (.ref a1)])) t → Steps p.tables e below (s₁.setTop (entryFrame m #[(.ref a1)] 1)) t := fun t k => J168 t (by
      show Steps p.tables e below (T167.setTop (mkF m 143 #[.val (.ref a1)] [])) _
      refine XS.aloadN X167.here hx rfl (hb hby d8_143) rfl rfl ?_
      show Steps p.tables e below (T167.setTop (mkF m 144 #[.val (.ref a1)] [(.ref a1)])) _
      refine XS.aloadN X167.here hx rfl (hb hby d8_144) rfl rfl ?_
      exact k)
  have f173 := f162.other W167 (Or.inr (slot_ne (Or.inl (hw _ (List.mem_of_getElem? (i := 24) rfl))) (Or.inl (hw _ (List.mem_of_getElem? (i := 27) rfl))) (by decide) (t := .long) (t' := .long) (by decide) (by decide)))
  obtain ⟨T174, X174, e174, st174⟩ := getF X167 hx hZ hown (host := "") (Or.inl (hw _ (List.mem_of_getElem? (i := 23) rfl))) Via.refl e167 f173 (g := (mkF m 145 #[.val (.ref a1)] [(.ref a1), (.ref a1)])) rfl rfl (hb hby d8_145)
  have J175 : ∀ t, Steps p.tables e below (T174.setTop (mkF m 148 #[.val (.ref a1)] [(.long ((own_rot x1 (13 : Int32)) ^^^ (x0 + x1))), (.ref a1)])) t → Steps p.tables e below (s₁.setTop (entryFrame m #[(.ref a1)] 1)) t := fun t k => J172 t (st174 t k)
  have J176 : ∀ t, Steps p.tables e below (T174.setTop (mkF m 150 #[.val (.ref a1)] [(.int (17 : Int32)), (.long ((own_rot x1 (13 : Int32)) ^^^ (x0 + x1))), (.ref a1)])) t → Steps p.tables e below (s₁.setTop (entryFrame m #[(.ref a1)] 1)) t := fun t k => J175 t (by
      show Steps p.tables e below (T174.setTop (mkF m 148 #[.val (.ref a1)] [(.long ((own_rot x1 (13 : Int32)) ^^^ (x0 + x1))), (.ref a1)])) _
      refine XS.bipush X174.here hx rfl (hb hby d8_148) ?_
      exact k)
  obtain ⟨_, _, ⟨T177, L177, k177, n177⟩, -, X177, ⟨Lc177, hQ177, l177, y177, z177⟩, st177⟩ := Jvm.LawKit.callS X174 hx (y := (⟨"java/lang/Long", "rotateLeft", "(JI)J"⟩ : MethodName)) hown (mvT hZ (hw _ (List.mem_of_getElem? (i := 58) rfl))) (mvT hZ (hw _ (List.mem_of_getElem? (i := 59) rfl))) (mvT hZ (hw _ (List.mem_of_getElem? (i := 60) rfl))) (mvT hZ (hw _ (List.mem_of_getElem? (i := 61) rfl))) (by decide) (backOf (W := 1) (rm9 l Z a0 hw [] ((own_rot x1 (13 : Int32)) ^^^ (x0 + x1)) (17 : Int32) h167 n0 Z169 ) hZ (hw _ (List.mem_of_getElem? (i := 61) rfl)) (hw _ (List.mem_of_getElem? (i := 60) rfl)) (by decide) (by decide)) (g := (mkF m 150 #[.val (.ref a1)] [(.int (17 : Int32)), (.long ((own_rot x1 (13 : Int32)) ^^^ (x0 + x1))), (.ref a1)])) rfl (by rw [hml]; rfl) (argsL := [(.long ((own_rot x1 (13 : Int32)) ^^^ (x0 + x1))), (.int (17 : Int32))]) (rest := [(.ref a1)]) (lenOf pd_0 rfl) rfl (by show 2 * 0 + _ ≤ _; exact Nat.le_of_eq rfl) (hb hby d8_150) (fun _ _ => ⟨rfl, e174, (by decide : 0 + 0 ≤ _), (by decide : 0 + 0 ≤ _)⟩)
  dsimp only [Pt.U, Pt.locs, Pt.cells, Pt.slots] at X177 l177 y177 z177 st177 hQ177
  subst l177 y177 z177
  obtain ⟨rfl, Nq177, e177⟩ := hQ177
  have N178 := Fr.app N171 Nq177
  have J179 : ∀ t, Steps p.tables e below (T177.setTop (mkF m 153 #[.val (.ref a1)] [(.long (own_rot ((own_rot x1 (13 : Int32)) ^^^ (x0 + x1)) (17 : Int32))), (.ref a1)])) t → Steps p.tables e below (s₁.setTop (entryFrame m #[(.ref a1)] 1)) t := fun t k => J176 t (st177 t k)
  have f180 := f166.wr W167
  obtain ⟨T181, h181, X181, e181, W181, st181⟩ := putF X177 hx hZ hown (host := "") (Or.inl (hw _ (List.mem_of_getElem? (i := 23) rfl))) Via.refl e177 f173 f180 (Or.inl (hw _ (List.mem_of_getElem? (i := 24) rfl))) (hw _ (List.mem_of_getElem? (i := 2) rfl)) (ty := .long) (by decide) rfl rfl (g := (mkF m 153 #[.val (.ref a1)] [(.long (own_rot ((own_rot x1 (13 : Int32)) ^^^ (x0 + x1)) (17 : Int32))), (.ref a1)])) rfl rfl (hb hby d8_153)
  have J182 : ∀ t, Steps p.tables e below (T181.setTop (mkF m 156 #[.val (.ref a1)] [])) t → Steps p.tables e below (s₁.setTop (entryFrame m #[(.ref a1)] 1)) t := fun t k => J179 t (st181 t k)
  have Z183 : n0 ≤ h181.size := Nat.le_trans Z169 (Keep.of_wr W181).1
  have KK184 : Keep h0 h181 [a1] := KK170.wr W181 (Or.inl (List.mem_of_getElem? (i := 0) rfl))
  have N185 := Fr.snoc X181 N178 g_a1
  have Fw181 := f173.same W181
  have J186 : ∀ t, Steps p.tables e below (T181.setTop (mkF m 158 #[.val (.ref a1)] [(.ref a1), (.ref a1)])) t → Steps p.tables e below (s₁.setTop (entryFrame m #[(.ref a1)] 1)) t := fun t k => J182 t (by
      show Steps p.tables e below (T181.setTop (mkF m 156 #[.val (.ref a1)] [])) _
      refine XS.aloadN X181.here hx rfl (hb hby d8_156) rfl rfl ?_
      show Steps p.tables e below (T181.setTop (mkF m 157 #[.val (.ref a1)] [(.ref a1)])) _
      refine XS.dup X181.here hx rfl (hb hby d8_157) rfl rfl ?_
      exact k)
  obtain ⟨T187, X187, e187, st187⟩ := getF X181 hx hZ hown (host := "") (Or.inl (hw _ (List.mem_of_getElem? (i := 23) rfl))) Via.refl e181 Fw181 (g := (mkF m 158 #[.val (.ref a1)] [(.ref a1), (.ref a1)])) rfl rfl (hb hby d8_158)
  have J188 : ∀ t, Steps p.tables e below (T187.setTop (mkF m 161 #[.val (.ref a1)] [(.long (own_rot ((own_rot x1 (13 : Int32)) ^^^ (x0 + x1)) (17 : Int32))), (.ref a1)])) t → Steps p.tables e below (s₁.setTop (entryFrame m #[(.ref a1)] 1)) t := fun t k => J186 t (st187 t k)
  have J189 : ∀ t, Steps p.tables e below (T187.setTop (mkF m 162 #[.val (.ref a1)] [(.ref a1), (.long (own_rot ((own_rot x1 (13 : Int32)) ^^^ (x0 + x1)) (17 : Int32))), (.ref a1)])) t → Steps p.tables e below (s₁.setTop (entryFrame m #[(.ref a1)] 1)) t := fun t k => J188 t (by
      show Steps p.tables e below (T187.setTop (mkF m 161 #[.val (.ref a1)] [(.long (own_rot ((own_rot x1 (13 : Int32)) ^^^ (x0 + x1)) (17 : Int32))), (.ref a1)])) _
      refine XS.aloadN X187.here hx rfl (hb hby d8_161) rfl rfl ?_
      exact k)
  have f190 := Fw167.other W181 (Or.inr (slot_ne (Or.inl (hw _ (List.mem_of_getElem? (i := 27) rfl))) (Or.inl (hw _ (List.mem_of_getElem? (i := 24) rfl))) (by decide) (t := .long) (t' := .long) (by decide) (by decide)))
  obtain ⟨T191, X191, e191, st191⟩ := getF X187 hx hZ hown (host := "") (Or.inl (hw _ (List.mem_of_getElem? (i := 26) rfl))) Via.refl e187 f190 (g := (mkF m 162 #[.val (.ref a1)] [(.ref a1), (.long (own_rot ((own_rot x1 (13 : Int32)) ^^^ (x0 + x1)) (17 : Int32))), (.ref a1)])) rfl rfl (hb hby d8_162)
  have J192 : ∀ t, Steps p.tables e below (T191.setTop (mkF m 165 #[.val (.ref a1)] [(.long ((x2 + x3) + ((own_rot x1 (13 : Int32)) ^^^ (x0 + x1)))), (.long (own_rot ((own_rot x1 (13 : Int32)) ^^^ (x0 + x1)) (17 : Int32))), (.ref a1)])) t → Steps p.tables e below (s₁.setTop (entryFrame m #[(.ref a1)] 1)) t := fun t k => J189 t (st191 t k)
  have J193 : ∀ t, Steps p.tables e below (T191.setTop (mkF m 166 #[.val (.ref a1)] [(.long ((own_rot ((own_rot x1 (13 : Int32)) ^^^ (x0 + x1)) (17 : Int32)) ^^^ ((x2 + x3) + ((own_rot x1 (13 : Int32)) ^^^ (x0 + x1))))), (.ref a1)])) t → Steps p.tables e below (s₁.setTop (entryFrame m #[(.ref a1)] 1)) t := fun t k => J192 t (by
      show Steps p.tables e below (T191.setTop (mkF m 165 #[.val (.ref a1)] [(.long ((x2 + x3) + ((own_rot x1 (13 : Int32)) ^^^ (x0 + x1)))), (.long (own_rot ((own_rot x1 (13 : Int32)) ^^^ (x0 + x1)) (17 : Int32))), (.ref a1)])) _
      refine XS.lxor X191.here hx rfl (hb hby d8_165) rfl ?_
      exact k)
  have f194 := f180.wr W181
  obtain ⟨T195, h195, X195, e195, W195, st195⟩ := putF X191 hx hZ hown (host := "") (Or.inl (hw _ (List.mem_of_getElem? (i := 23) rfl))) Via.refl e191 Fw181 f194 (Or.inl (hw _ (List.mem_of_getElem? (i := 24) rfl))) (hw _ (List.mem_of_getElem? (i := 2) rfl)) (ty := .long) (by decide) rfl rfl (g := (mkF m 166 #[.val (.ref a1)] [(.long ((own_rot ((own_rot x1 (13 : Int32)) ^^^ (x0 + x1)) (17 : Int32)) ^^^ ((x2 + x3) + ((own_rot x1 (13 : Int32)) ^^^ (x0 + x1))))), (.ref a1)])) rfl rfl (hb hby d8_166)
  have J196 : ∀ t, Steps p.tables e below (T195.setTop (mkF m 169 #[.val (.ref a1)] [])) t → Steps p.tables e below (s₁.setTop (entryFrame m #[(.ref a1)] 1)) t := fun t k => J193 t (st195 t k)
  have Z197 : n0 ≤ h195.size := Nat.le_trans Z183 (Keep.of_wr W195).1
  have KK198 : Keep h0 h195 [a1] := KK184.wr W195 (Or.inl (List.mem_of_getElem? (i := 0) rfl))
  have N199 := Fr.snoc X195 N185 g_a1
  have Fw195 := Fw181.same W195
  have J200 : ∀ t, Steps p.tables e below (T195.setTop (mkF m 171 #[.val (.ref a1)] [(.ref a1), (.ref a1)])) t → Steps p.tables e below (s₁.setTop (entryFrame m #[(.ref a1)] 1)) t := fun t k => J196 t (by
      show Steps p.tables e below (T195.setTop (mkF m 169 #[.val (.ref a1)] [])) _
      refine XS.aloadN X195.here hx rfl (hb hby d8_169) rfl rfl ?_
      show Steps p.tables e below (T195.setTop (mkF m 170 #[.val (.ref a1)] [(.ref a1)])) _
      refine XS.aloadN X195.here hx rfl (hb hby d8_170) rfl rfl ?_
      exact k)
  have f201 := f190.other W195 (Or.inr (slot_ne (Or.inl (hw _ (List.mem_of_getElem? (i := 27) rfl))) (Or.inl (hw _ (List.mem_of_getElem? (i := 24) rfl))) (by decide) (t := .long) (t' := .long) (by decide) (by decide)))
  obtain ⟨T202, X202, e202, st202⟩ := getF X195 hx hZ hown (host := "") (Or.inl (hw _ (List.mem_of_getElem? (i := 26) rfl))) Via.refl e195 f201 (g := (mkF m 171 #[.val (.ref a1)] [(.ref a1), (.ref a1)])) rfl rfl (hb hby d8_171)
  have J203 : ∀ t, Steps p.tables e below (T202.setTop (mkF m 174 #[.val (.ref a1)] [(.long ((x2 + x3) + ((own_rot x1 (13 : Int32)) ^^^ (x0 + x1)))), (.ref a1)])) t → Steps p.tables e below (s₁.setTop (entryFrame m #[(.ref a1)] 1)) t := fun t k => J200 t (st202 t k)
  have J204 : ∀ t, Steps p.tables e below (T202.setTop (mkF m 176 #[.val (.ref a1)] [(.int (32 : Int32)), (.long ((x2 + x3) + ((own_rot x1 (13 : Int32)) ^^^ (x0 + x1)))), (.ref a1)])) t → Steps p.tables e below (s₁.setTop (entryFrame m #[(.ref a1)] 1)) t := fun t k => J203 t (by
      show Steps p.tables e below (T202.setTop (mkF m 174 #[.val (.ref a1)] [(.long ((x2 + x3) + ((own_rot x1 (13 : Int32)) ^^^ (x0 + x1)))), (.ref a1)])) _
      refine XS.bipush X202.here hx rfl (hb hby d8_174) ?_
      exact k)
  obtain ⟨_, _, ⟨T205, L205, k205, n205⟩, -, X205, ⟨Lc205, hQ205, l205, y205, z205⟩, st205⟩ := Jvm.LawKit.callS X202 hx (y := (⟨"java/lang/Long", "rotateLeft", "(JI)J"⟩ : MethodName)) hown (mvT hZ (hw _ (List.mem_of_getElem? (i := 58) rfl))) (mvT hZ (hw _ (List.mem_of_getElem? (i := 59) rfl))) (mvT hZ (hw _ (List.mem_of_getElem? (i := 60) rfl))) (mvT hZ (hw _ (List.mem_of_getElem? (i := 61) rfl))) (by decide) (backOf (W := 1) (rm9 l Z a0 hw [] ((x2 + x3) + ((own_rot x1 (13 : Int32)) ^^^ (x0 + x1))) (32 : Int32) h195 n0 Z197 ) hZ (hw _ (List.mem_of_getElem? (i := 61) rfl)) (hw _ (List.mem_of_getElem? (i := 60) rfl)) (by decide) (by decide)) (g := (mkF m 176 #[.val (.ref a1)] [(.int (32 : Int32)), (.long ((x2 + x3) + ((own_rot x1 (13 : Int32)) ^^^ (x0 + x1)))), (.ref a1)])) rfl (by rw [hml]; rfl) (argsL := [(.long ((x2 + x3) + ((own_rot x1 (13 : Int32)) ^^^ (x0 + x1)))), (.int (32 : Int32))]) (rest := [(.ref a1)]) (lenOf pd_0 rfl) rfl (by show 2 * 0 + _ ≤ _; exact Nat.le_of_eq rfl) (hb hby d8_176) (fun _ _ => ⟨rfl, e202, (by decide : 0 + 0 ≤ _), (by decide : 0 + 0 ≤ _)⟩)
  dsimp only [Pt.U, Pt.locs, Pt.cells, Pt.slots] at X205 l205 y205 z205 st205 hQ205
  subst l205 y205 z205
  obtain ⟨rfl, Nq205, e205⟩ := hQ205
  have N206 := Fr.app N199 Nq205
  have J207 : ∀ t, Steps p.tables e below (T205.setTop (mkF m 179 #[.val (.ref a1)] [(.long (own_rot ((x2 + x3) + ((own_rot x1 (13 : Int32)) ^^^ (x0 + x1))) (32 : Int32))), (.ref a1)])) t → Steps p.tables e below (s₁.setTop (entryFrame m #[(.ref a1)] 1)) t := fun t k => J204 t (st205 t k)
  have f208 := f194.wr W195
  obtain ⟨T209, h209, X209, e209, W209, st209⟩ := putF X205 hx hZ hown (host := "") (Or.inl (hw _ (List.mem_of_getElem? (i := 26) rfl))) Via.refl e205 f201 f208 (Or.inl (hw _ (List.mem_of_getElem? (i := 27) rfl))) (hw _ (List.mem_of_getElem? (i := 2) rfl)) (ty := .long) (by decide) rfl rfl (g := (mkF m 179 #[.val (.ref a1)] [(.long (own_rot ((x2 + x3) + ((own_rot x1 (13 : Int32)) ^^^ (x0 + x1))) (32 : Int32))), (.ref a1)])) rfl rfl (hb hby d8_179)
  have J210 : ∀ t, Steps p.tables e below (T209.setTop (mkF m 182 #[.val (.ref a1)] [])) t → Steps p.tables e below (s₁.setTop (entryFrame m #[(.ref a1)] 1)) t := fun t k => J207 t (st209 t k)
  have Z211 : n0 ≤ h209.size := Nat.le_trans Z197 (Keep.of_wr W209).1
  have KK212 : Keep h0 h209 [a1] := KK198.wr W209 (Or.inl (List.mem_of_getElem? (i := 0) rfl))
  have N213 := Fr.snoc X209 N206 g_a1
  have Fw209 := f201.same W209
  obtain ⟨fs, hr, hrun, hended, hW, hsame⟩ := X209.leave (v := none) (fun _ => rfl)
  have f214 := f208.wr W209
  have f215 := F_key0_a1.other W8 (Or.inr (slot_ne (Or.inr (hw _ (List.mem_of_getElem? (i := 11) rfl))) (Or.inl (hw _ (List.mem_of_getElem? (i := 21) rfl))) (by decide) (t := .long) (t' := .long) (by decide) (by decide)))
  have f216 := f215.other W22 (Or.inr (slot_ne (Or.inr (hw _ (List.mem_of_getElem? (i := 11) rfl))) (Or.inl (hw _ (List.mem_of_getElem? (i := 24) rfl))) (by decide) (t := .long) (t' := .long) (by decide) (by decide)))
  have f217 := f216.other W36 (Or.inr (slot_ne (Or.inr (hw _ (List.mem_of_getElem? (i := 11) rfl))) (Or.inl (hw _ (List.mem_of_getElem? (i := 24) rfl))) (by decide) (t := .long) (t' := .long) (by decide) (by decide)))
  have f218 := f217.other W50 (Or.inr (slot_ne (Or.inr (hw _ (List.mem_of_getElem? (i := 11) rfl))) (Or.inl (hw _ (List.mem_of_getElem? (i := 21) rfl))) (by decide) (t := .long) (t' := .long) (by decide) (by decide)))
  have f219 := f218.other W71 (Or.inr (slot_ne (Or.inr (hw _ (List.mem_of_getElem? (i := 11) rfl))) (Or.inl (hw _ (List.mem_of_getElem? (i := 27) rfl))) (by decide) (t := .long) (t' := .long) (by decide) (by decide)))
  have f220 := f219.other W85 (Or.inr (slot_ne (Or.inr (hw _ (List.mem_of_getElem? (i := 11) rfl))) (Or.inl (hw _ (List.mem_of_getElem? (i := 30) rfl))) (by decide) (t := .long) (t' := .long) (by decide) (by decide)))
  have f221 := f220.other W99 (Or.inr (slot_ne (Or.inr (hw _ (List.mem_of_getElem? (i := 11) rfl))) (Or.inl (hw _ (List.mem_of_getElem? (i := 30) rfl))) (by decide) (t := .long) (t' := .long) (by decide) (by decide)))
  have f222 := f221.other W115 (Or.inr (slot_ne (Or.inr (hw _ (List.mem_of_getElem? (i := 11) rfl))) (Or.inl (hw _ (List.mem_of_getElem? (i := 21) rfl))) (by decide) (t := .long) (t' := .long) (by decide) (by decide)))
  have f223 := f222.other W129 (Or.inr (slot_ne (Or.inr (hw _ (List.mem_of_getElem? (i := 11) rfl))) (Or.inl (hw _ (List.mem_of_getElem? (i := 30) rfl))) (by decide) (t := .long) (t' := .long) (by decide) (by decide)))
  have f224 := f223.other W143 (Or.inr (slot_ne (Or.inr (hw _ (List.mem_of_getElem? (i := 11) rfl))) (Or.inl (hw _ (List.mem_of_getElem? (i := 30) rfl))) (by decide) (t := .long) (t' := .long) (by decide) (by decide)))
  have f225 := f224.other W167 (Or.inr (slot_ne (Or.inr (hw _ (List.mem_of_getElem? (i := 11) rfl))) (Or.inl (hw _ (List.mem_of_getElem? (i := 27) rfl))) (by decide) (t := .long) (t' := .long) (by decide) (by decide)))
  have f226 := f225.other W181 (Or.inr (slot_ne (Or.inr (hw _ (List.mem_of_getElem? (i := 11) rfl))) (Or.inl (hw _ (List.mem_of_getElem? (i := 24) rfl))) (by decide) (t := .long) (t' := .long) (by decide) (by decide)))
  have f227 := f226.other W195 (Or.inr (slot_ne (Or.inr (hw _ (List.mem_of_getElem? (i := 11) rfl))) (Or.inl (hw _ (List.mem_of_getElem? (i := 24) rfl))) (by decide) (t := .long) (t' := .long) (by decide) (by decide)))
  have f228 := f227.other W209 (Or.inr (slot_ne (Or.inr (hw _ (List.mem_of_getElem? (i := 11) rfl))) (Or.inl (hw _ (List.mem_of_getElem? (i := 27) rfl))) (by decide) (t := .long) (t' := .long) (by decide) (by decide)))
  have f229 := F_key1_a1.other W8 (Or.inr (slot_ne (Or.inr (hw _ (List.mem_of_getElem? (i := 13) rfl))) (Or.inl (hw _ (List.mem_of_getElem? (i := 21) rfl))) (by decide) (t := .long) (t' := .long) (by decide) (by decide)))
  have f230 := f229.other W22 (Or.inr (slot_ne (Or.inr (hw _ (List.mem_of_getElem? (i := 13) rfl))) (Or.inl (hw _ (List.mem_of_getElem? (i := 24) rfl))) (by decide) (t := .long) (t' := .long) (by decide) (by decide)))
  have f231 := f230.other W36 (Or.inr (slot_ne (Or.inr (hw _ (List.mem_of_getElem? (i := 13) rfl))) (Or.inl (hw _ (List.mem_of_getElem? (i := 24) rfl))) (by decide) (t := .long) (t' := .long) (by decide) (by decide)))
  have f232 := f231.other W50 (Or.inr (slot_ne (Or.inr (hw _ (List.mem_of_getElem? (i := 13) rfl))) (Or.inl (hw _ (List.mem_of_getElem? (i := 21) rfl))) (by decide) (t := .long) (t' := .long) (by decide) (by decide)))
  have f233 := f232.other W71 (Or.inr (slot_ne (Or.inr (hw _ (List.mem_of_getElem? (i := 13) rfl))) (Or.inl (hw _ (List.mem_of_getElem? (i := 27) rfl))) (by decide) (t := .long) (t' := .long) (by decide) (by decide)))
  have f234 := f233.other W85 (Or.inr (slot_ne (Or.inr (hw _ (List.mem_of_getElem? (i := 13) rfl))) (Or.inl (hw _ (List.mem_of_getElem? (i := 30) rfl))) (by decide) (t := .long) (t' := .long) (by decide) (by decide)))
  have f235 := f234.other W99 (Or.inr (slot_ne (Or.inr (hw _ (List.mem_of_getElem? (i := 13) rfl))) (Or.inl (hw _ (List.mem_of_getElem? (i := 30) rfl))) (by decide) (t := .long) (t' := .long) (by decide) (by decide)))
  have f236 := f235.other W115 (Or.inr (slot_ne (Or.inr (hw _ (List.mem_of_getElem? (i := 13) rfl))) (Or.inl (hw _ (List.mem_of_getElem? (i := 21) rfl))) (by decide) (t := .long) (t' := .long) (by decide) (by decide)))
  have f237 := f236.other W129 (Or.inr (slot_ne (Or.inr (hw _ (List.mem_of_getElem? (i := 13) rfl))) (Or.inl (hw _ (List.mem_of_getElem? (i := 30) rfl))) (by decide) (t := .long) (t' := .long) (by decide) (by decide)))
  have f238 := f237.other W143 (Or.inr (slot_ne (Or.inr (hw _ (List.mem_of_getElem? (i := 13) rfl))) (Or.inl (hw _ (List.mem_of_getElem? (i := 30) rfl))) (by decide) (t := .long) (t' := .long) (by decide) (by decide)))
  have f239 := f238.other W167 (Or.inr (slot_ne (Or.inr (hw _ (List.mem_of_getElem? (i := 13) rfl))) (Or.inl (hw _ (List.mem_of_getElem? (i := 27) rfl))) (by decide) (t := .long) (t' := .long) (by decide) (by decide)))
  have f240 := f239.other W181 (Or.inr (slot_ne (Or.inr (hw _ (List.mem_of_getElem? (i := 13) rfl))) (Or.inl (hw _ (List.mem_of_getElem? (i := 24) rfl))) (by decide) (t := .long) (t' := .long) (by decide) (by decide)))
  have f241 := f240.other W195 (Or.inr (slot_ne (Or.inr (hw _ (List.mem_of_getElem? (i := 13) rfl))) (Or.inl (hw _ (List.mem_of_getElem? (i := 24) rfl))) (by decide) (t := .long) (t' := .long) (by decide) (by decide)))
  have f242 := f241.other W209 (Or.inr (slot_ne (Or.inr (hw _ (List.mem_of_getElem? (i := 13) rfl))) (Or.inl (hw _ (List.mem_of_getElem? (i := 27) rfl))) (by decide) (t := .long) (t' := .long) (by decide) (by decide)))
  have f243 := f138.other W143 (Or.inr (slot_ne (Or.inl (hw _ (List.mem_of_getElem? (i := 21) rfl))) (Or.inl (hw _ (List.mem_of_getElem? (i := 30) rfl))) (by decide) (t := .long) (t' := .long) (by decide) (by decide)))
  have f244 := f243.other W167 (Or.inr (slot_ne (Or.inl (hw _ (List.mem_of_getElem? (i := 21) rfl))) (Or.inl (hw _ (List.mem_of_getElem? (i := 27) rfl))) (by decide) (t := .long) (t' := .long) (by decide) (by decide)))
  have f245 := f244.other W181 (Or.inr (slot_ne (Or.inl (hw _ (List.mem_of_getElem? (i := 21) rfl))) (Or.inl (hw _ (List.mem_of_getElem? (i := 24) rfl))) (by decide) (t := .long) (t' := .long) (by decide) (by decide)))
  have f246 := f245.other W195 (Or.inr (slot_ne (Or.inl (hw _ (List.mem_of_getElem? (i := 21) rfl))) (Or.inl (hw _ (List.mem_of_getElem? (i := 24) rfl))) (by decide) (t := .long) (t' := .long) (by decide) (by decide)))
  have f247 := f246.other W209 (Or.inr (slot_ne (Or.inl (hw _ (List.mem_of_getElem? (i := 21) rfl))) (Or.inl (hw _ (List.mem_of_getElem? (i := 27) rfl))) (by decide) (t := .long) (t' := .long) (by decide) (by decide)))
  have f248 := Fw195.other W209 (Or.inr (slot_ne (Or.inl (hw _ (List.mem_of_getElem? (i := 24) rfl))) (Or.inl (hw _ (List.mem_of_getElem? (i := 27) rfl))) (by decide) (t := .long) (t' := .long) (by decide) (by decide)))
  have f249 := Fw143.other W167 (Or.inr (slot_ne (Or.inl (hw _ (List.mem_of_getElem? (i := 30) rfl))) (Or.inl (hw _ (List.mem_of_getElem? (i := 27) rfl))) (by decide) (t := .long) (t' := .long) (by decide) (by decide)))
  have f250 := f249.other W181 (Or.inr (slot_ne (Or.inl (hw _ (List.mem_of_getElem? (i := 30) rfl))) (Or.inl (hw _ (List.mem_of_getElem? (i := 24) rfl))) (by decide) (t := .long) (t' := .long) (by decide) (by decide)))
  have f251 := f250.other W195 (Or.inr (slot_ne (Or.inl (hw _ (List.mem_of_getElem? (i := 30) rfl))) (Or.inl (hw _ (List.mem_of_getElem? (i := 24) rfl))) (by decide) (t := .long) (t' := .long) (by decide) (by decide)))
  have f252 := f251.other W209 (Or.inr (slot_ne (Or.inl (hw _ (List.mem_of_getElem? (i := 30) rfl))) (Or.inl (hw _ (List.mem_of_getElem? (i := 27) rfl))) (by decide) (t := .long) (t' := .long) (by decide) (by decide)))
  have f253 := F_word_a1.other W8 (Or.inr (slot_ne (Or.inl (hw _ (List.mem_of_getElem? (i := 32) rfl))) (Or.inl (hw _ (List.mem_of_getElem? (i := 21) rfl))) (by decide) (t := .long) (t' := .long) (by decide) (by decide)))
  have f254 := f253.other W22 (Or.inr (slot_ne (Or.inl (hw _ (List.mem_of_getElem? (i := 32) rfl))) (Or.inl (hw _ (List.mem_of_getElem? (i := 24) rfl))) (by decide) (t := .long) (t' := .long) (by decide) (by decide)))
  have f255 := f254.other W36 (Or.inr (slot_ne (Or.inl (hw _ (List.mem_of_getElem? (i := 32) rfl))) (Or.inl (hw _ (List.mem_of_getElem? (i := 24) rfl))) (by decide) (t := .long) (t' := .long) (by decide) (by decide)))
  have f256 := f255.other W50 (Or.inr (slot_ne (Or.inl (hw _ (List.mem_of_getElem? (i := 32) rfl))) (Or.inl (hw _ (List.mem_of_getElem? (i := 21) rfl))) (by decide) (t := .long) (t' := .long) (by decide) (by decide)))
  have f257 := f256.other W71 (Or.inr (slot_ne (Or.inl (hw _ (List.mem_of_getElem? (i := 32) rfl))) (Or.inl (hw _ (List.mem_of_getElem? (i := 27) rfl))) (by decide) (t := .long) (t' := .long) (by decide) (by decide)))
  have f258 := f257.other W85 (Or.inr (slot_ne (Or.inl (hw _ (List.mem_of_getElem? (i := 32) rfl))) (Or.inl (hw _ (List.mem_of_getElem? (i := 30) rfl))) (by decide) (t := .long) (t' := .long) (by decide) (by decide)))
  have f259 := f258.other W99 (Or.inr (slot_ne (Or.inl (hw _ (List.mem_of_getElem? (i := 32) rfl))) (Or.inl (hw _ (List.mem_of_getElem? (i := 30) rfl))) (by decide) (t := .long) (t' := .long) (by decide) (by decide)))
  have f260 := f259.other W115 (Or.inr (slot_ne (Or.inl (hw _ (List.mem_of_getElem? (i := 32) rfl))) (Or.inl (hw _ (List.mem_of_getElem? (i := 21) rfl))) (by decide) (t := .long) (t' := .long) (by decide) (by decide)))
  have f261 := f260.other W129 (Or.inr (slot_ne (Or.inl (hw _ (List.mem_of_getElem? (i := 32) rfl))) (Or.inl (hw _ (List.mem_of_getElem? (i := 30) rfl))) (by decide) (t := .long) (t' := .long) (by decide) (by decide)))
  have f262 := f261.other W143 (Or.inr (slot_ne (Or.inl (hw _ (List.mem_of_getElem? (i := 32) rfl))) (Or.inl (hw _ (List.mem_of_getElem? (i := 30) rfl))) (by decide) (t := .long) (t' := .long) (by decide) (by decide)))
  have f263 := f262.other W167 (Or.inr (slot_ne (Or.inl (hw _ (List.mem_of_getElem? (i := 32) rfl))) (Or.inl (hw _ (List.mem_of_getElem? (i := 27) rfl))) (by decide) (t := .long) (t' := .long) (by decide) (by decide)))
  have f264 := f263.other W181 (Or.inr (slot_ne (Or.inl (hw _ (List.mem_of_getElem? (i := 32) rfl))) (Or.inl (hw _ (List.mem_of_getElem? (i := 24) rfl))) (by decide) (t := .long) (t' := .long) (by decide) (by decide)))
  have f265 := f264.other W195 (Or.inr (slot_ne (Or.inl (hw _ (List.mem_of_getElem? (i := 32) rfl))) (Or.inl (hw _ (List.mem_of_getElem? (i := 24) rfl))) (by decide) (t := .long) (t' := .long) (by decide) (by decide)))
  have f266 := f265.other W209 (Or.inr (slot_ne (Or.inl (hw _ (List.mem_of_getElem? (i := 32) rfl))) (Or.inl (hw _ (List.mem_of_getElem? (i := 27) rfl))) (by decide) (t := .long) (t' := .long) (by decide) (by decide)))
  have f267 := F_length_a1.other W8 (Or.inr (slot_ne (Or.inl (hw _ (List.mem_of_getElem? (i := 34) rfl))) (Or.inl (hw _ (List.mem_of_getElem? (i := 21) rfl))) (by decide) (t := .int) (t' := .long) (by decide) (by decide)))
  have f268 := f267.other W22 (Or.inr (slot_ne (Or.inl (hw _ (List.mem_of_getElem? (i := 34) rfl))) (Or.inl (hw _ (List.mem_of_getElem? (i := 24) rfl))) (by decide) (t := .int) (t' := .long) (by decide) (by decide)))
  have f269 := f268.other W36 (Or.inr (slot_ne (Or.inl (hw _ (List.mem_of_getElem? (i := 34) rfl))) (Or.inl (hw _ (List.mem_of_getElem? (i := 24) rfl))) (by decide) (t := .int) (t' := .long) (by decide) (by decide)))
  have f270 := f269.other W50 (Or.inr (slot_ne (Or.inl (hw _ (List.mem_of_getElem? (i := 34) rfl))) (Or.inl (hw _ (List.mem_of_getElem? (i := 21) rfl))) (by decide) (t := .int) (t' := .long) (by decide) (by decide)))
  have f271 := f270.other W71 (Or.inr (slot_ne (Or.inl (hw _ (List.mem_of_getElem? (i := 34) rfl))) (Or.inl (hw _ (List.mem_of_getElem? (i := 27) rfl))) (by decide) (t := .int) (t' := .long) (by decide) (by decide)))
  have f272 := f271.other W85 (Or.inr (slot_ne (Or.inl (hw _ (List.mem_of_getElem? (i := 34) rfl))) (Or.inl (hw _ (List.mem_of_getElem? (i := 30) rfl))) (by decide) (t := .int) (t' := .long) (by decide) (by decide)))
  have f273 := f272.other W99 (Or.inr (slot_ne (Or.inl (hw _ (List.mem_of_getElem? (i := 34) rfl))) (Or.inl (hw _ (List.mem_of_getElem? (i := 30) rfl))) (by decide) (t := .int) (t' := .long) (by decide) (by decide)))
  have f274 := f273.other W115 (Or.inr (slot_ne (Or.inl (hw _ (List.mem_of_getElem? (i := 34) rfl))) (Or.inl (hw _ (List.mem_of_getElem? (i := 21) rfl))) (by decide) (t := .int) (t' := .long) (by decide) (by decide)))
  have f275 := f274.other W129 (Or.inr (slot_ne (Or.inl (hw _ (List.mem_of_getElem? (i := 34) rfl))) (Or.inl (hw _ (List.mem_of_getElem? (i := 30) rfl))) (by decide) (t := .int) (t' := .long) (by decide) (by decide)))
  have f276 := f275.other W143 (Or.inr (slot_ne (Or.inl (hw _ (List.mem_of_getElem? (i := 34) rfl))) (Or.inl (hw _ (List.mem_of_getElem? (i := 30) rfl))) (by decide) (t := .int) (t' := .long) (by decide) (by decide)))
  have f277 := f276.other W167 (Or.inr (slot_ne (Or.inl (hw _ (List.mem_of_getElem? (i := 34) rfl))) (Or.inl (hw _ (List.mem_of_getElem? (i := 27) rfl))) (by decide) (t := .int) (t' := .long) (by decide) (by decide)))
  have f278 := f277.other W181 (Or.inr (slot_ne (Or.inl (hw _ (List.mem_of_getElem? (i := 34) rfl))) (Or.inl (hw _ (List.mem_of_getElem? (i := 24) rfl))) (by decide) (t := .int) (t' := .long) (by decide) (by decide)))
  have f279 := f278.other W195 (Or.inr (slot_ne (Or.inl (hw _ (List.mem_of_getElem? (i := 34) rfl))) (Or.inl (hw _ (List.mem_of_getElem? (i := 24) rfl))) (by decide) (t := .int) (t' := .long) (by decide) (by decide)))
  have f280 := f279.other W209 (Or.inr (slot_ne (Or.inl (hw _ (List.mem_of_getElem? (i := 34) rfl))) (Or.inl (hw _ (List.mem_of_getElem? (i := 27) rfl))) (by decide) (t := .int) (t' := .long) (by decide) (by decide)))
  refine ⟨_, _, J210 _ ?_, hrun, hended, _, _, rfl, ?_, ⟨_, rfl⟩, hW, hsame.mono (by decide) (by decide)⟩
  · show Steps p.tables e below (T209.setTop (mkF m 182 #[.val (.ref a1)] [])) _
    exact X209.returnOut hx Bd.returns (hb hby d8_182) hr
  · show Q8 Z a1 k0 k1 x0 x1 x2 x3 x4 x5 h0 n0 _ T209.heap _
    rw [e209]
    exact ⟨((own_rot (x0 + x1) (32 : Int32)) + ((own_rot x3 (16 : Int32)) ^^^ (x2 + x3))), ((own_rot ((own_rot x1 (13 : Int32)) ^^^ (x0 + x1)) (17 : Int32)) ^^^ ((x2 + x3) + ((own_rot x1 (13 : Int32)) ^^^ (x0 + x1)))), (own_rot ((x2 + x3) + ((own_rot x1 (13 : Int32)) ^^^ (x0 + x1))) (32 : Int32)), ((own_rot ((own_rot x3 (16 : Int32)) ^^^ (x2 + x3)) (21 : Int32)) ^^^ ((own_rot (x0 + x1) (32 : Int32)) + ((own_rot x3 (16 : Int32)) ^^^ (x2 + x3)))), x4, x5, rfl, N213, KK212, f214, f228, f242, f247, f248, Fw209, f252, f266, f280, rfl⟩
theorem d7_0 : decode prog_76_method_5_code 0 = .ok (.aload_n 0, 1) := by decide +kernel
theorem d7_1 : decode prog_76_method_5_code 1 = .ok (.dup, 1) := by decide +kernel
theorem d7_2 : decode prog_76_method_5_code 2 = .ok (.getfield 39, 3) := by decide +kernel
theorem d7_5 : decode prog_76_method_5_code 5 = .ok (.lload_n 1, 1) := by decide +kernel
theorem d7_6 : decode prog_76_method_5_code 6 = .ok (.lxor, 1) := by decide +kernel
theorem d7_7 : decode prog_76_method_5_code 7 = .ok (.putfield 39, 3) := by decide +kernel
theorem d7_10 : decode prog_76_method_5_code 10 = .ok (.iconst 0, 1) := by decide +kernel
theorem d7_11 : decode prog_76_method_5_code 11 = .ok (.istore_n 3, 1) := by decide +kernel
theorem d7_12 : decode prog_76_method_5_code 12 = .ok (.iload_n 3, 1) := by decide +kernel
theorem d7_13 : decode prog_76_method_5_code 13 = .ok (.iconst 1, 1) := by decide +kernel
theorem d7_14 : decode prog_76_method_5_code 14 = .ok (.if_icmp .ge 13, 3) := by decide +kernel
theorem d7_17 : decode prog_76_method_5_code 17 = .ok (.aload_n 0, 1) := by decide +kernel
theorem d7_18 : decode prog_76_method_5_code 18 = .ok (.invokevirtual 57, 3) := by decide +kernel
theorem pd_1 : parseMethodDescriptor "()V" = some ⟨[], none⟩ := by decide +kernel
theorem d7_21 : decode prog_76_method_5_code 21 = .ok (.iinc 3 1, 3) := by decide +kernel
theorem d7_24 : decode prog_76_method_5_code 24 = .ok (.goto (-12), 3) := by decide +kernel
theorem d7_27 : decode prog_76_method_5_code 27 = .ok (.aload_n 0, 1) := by decide +kernel
theorem d7_28 : decode prog_76_method_5_code 28 = .ok (.dup, 1) := by decide +kernel
theorem d7_29 : decode prog_76_method_5_code 29 = .ok (.getfield 24, 3) := by decide +kernel
theorem d7_32 : decode prog_76_method_5_code 32 = .ok (.lload_n 1, 1) := by decide +kernel
theorem d7_33 : decode prog_76_method_5_code 33 = .ok (.lxor, 1) := by decide +kernel
theorem d7_34 : decode prog_76_method_5_code 34 = .ok (.putfield 24, 3) := by decide +kernel
theorem d7_37 : decode prog_76_method_5_code 37 = .ok (.return_, 1) := by decide +kernel
theorem pn_7 : plainName "com/example/tranche/tranche/io/SipHash" = true := by first | (simp [plainName, overriddenIn]; done) | decide +kernel
theorem ef_7_xx (m : MethodId) (x0 : Addr) (x1 : Int64) : entryFrame m #[(.ref x0), (.long x1)] 4 = mkF m 0 #[.val (.ref x0), .val (.long x1), .second, .unset] [] := by first | (simp [entryFrame, mkF, argsToLocals, Value.category]; done) | rfl
def Q7 (Z : State) (a1 : Addr) (q1 : Int64) (k0 : Int64) (k1 : Int64) (x0 : Int64) (x1 : Int64) (x2 : Int64) (x3 : Int64) (x4 : Int64) (x5 : Int32) (h0 : Heap) (n0 : Nat) (v : Option Value) (h : Heap) (L : List Loc) : Prop := ∃ (z0 : Int64) (z1 : Int64) (z2 : Int64) (z3 : Int64) (z4 : Int64) (z5 : Int32), v = none ∧ Fr n0 L ∧ Keep h0 h [a1] ∧ (Exa Z h a1 "com/example/tranche/tranche/io/SipHash") ∧ (Fld Z h a1 "com/example/tranche/tranche/io/SipHash" "key0" "J" (.long k0)) ∧ (Fld Z h a1 "com/example/tranche/tranche/io/SipHash" "key1" "J" (.long k1)) ∧ (Fld Z h a1 "com/example/tranche/tranche/io/SipHash" "v0" "J" (.long z0)) ∧ (Fld Z h a1 "com/example/tranche/tranche/io/SipHash" "v1" "J" (.long z1)) ∧ (Fld Z h a1 "com/example/tranche/tranche/io/SipHash" "v2" "J" (.long z2)) ∧ (Fld Z h a1 "com/example/tranche/tranche/io/SipHash" "v3" "J" (.long z3)) ∧ (Fld Z h a1 "com/example/tranche/tranche/io/SipHash" "word" "J" (.long z4)) ∧ (Fld Z h a1 "com/example/tranche/tranche/io/SipHash" "length" "I" (.int z5)) ∧ (((z0, z1, z2, z3, z4, z5) : SS) = own_cp ((x0, x1, x2, x3, x4, x5) : SS) q1)
set_option maxRecDepth 65536 in
set_option maxHeartbeats 40000000 in
theorem rm7 (l : Launch) (Z : State) (a0 : Array Value) (hw : ∀ d ∈ tables_1, d.before a0 Z = true) (ws : List Jvm.Cond) (a1 : Addr) (q1 : Int64) (k0 : Int64) (k1 : Int64) (x0 : Int64) (x1 : Int64) (x2 : Int64) (x3 : Int64) (x4 : Int64) (x5 : Int32) (h0 : Heap) (n0 : Nat) (Z0 : n0 ≤ h0.size) (E_a1 : Exa Z h0 a1 "com/example/tranche/tranche/io/SipHash") (g_a1 : n0 ≤ a1) (F_key0_a1 : Fld Z h0 a1 "com/example/tranche/tranche/io/SipHash" "key0" "J" (.long k0)) (F_key1_a1 : Fld Z h0 a1 "com/example/tranche/tranche/io/SipHash" "key1" "J" (.long k1)) (F_v0_a1 : Fld Z h0 a1 "com/example/tranche/tranche/io/SipHash" "v0" "J" (.long x0)) (F_v1_a1 : Fld Z h0 a1 "com/example/tranche/tranche/io/SipHash" "v1" "J" (.long x1)) (F_v2_a1 : Fld Z h0 a1 "com/example/tranche/tranche/io/SipHash" "v2" "J" (.long x2)) (F_v3_a1 : Fld Z h0 a1 "com/example/tranche/tranche/io/SipHash" "v3" "J" (.long x3)) (F_word_a1 : Fld Z h0 a1 "com/example/tranche/tranche/io/SipHash" "word" "J" (.long x4)) (F_length_a1 : Fld Z h0 a1 "com/example/tranche/tranche/io/SipHash" "length" "I" (.int x5)) :
    MetFree l (⟨"com/example/tranche/tranche/io/SipHash", "compress", "(J)V"⟩ : MethodName) (head1 (Jvm.Cond.code (⟨"com/example/tranche/tranche/io/SipHash", "compress", "(J)V"⟩ : MethodName) prog_76_method_5_code 4 none :: ws) ({ frames := 2, cells := 0, slots := 0, locals := 27 } : Room)) (fun a U => a = #[(.ref a1), (.long q1)] ∧ Z.Warmed39 U.vm ∧ U.heap = h0) (fun _ _ _ _ _ => True) (fun _ U o U' => ∃ v L, o = .returned v ∧ Q7 Z a1 q1 k0 k1 x0 x1 x2 x3 x4 x5 h0 n0 v U'.heap L ∧ FrameEnd U o U' L ({ frames := 2, cells := 0, slots := 0, locals := 27 } : Room).cells ({ frames := 2, cells := 0, slots := 0, locals := 27 } : Room).slots) := by
  refine MetFree.of_bodySF (plainFor_of_name pn_7) hisR ?_
  intro p e s m args below meth c s₁ Bd hml0 hP hK
  obtain ⟨rfl, hZ, hh⟩ := hP
  have hx := Bd.exec
  have hby := Bd.bytes
  have hml : c.maxLocals = 4 := hml0
  have hown : s.vm.findClass "com/example/tranche/tranche/io/SipHash" = some m.cls := findClass_of_methodNamed Bd.named
  have hnm := (name_of_methodNamed Bd.named Bd.method).1
  have X0 : Stand p l e ({ frames := 2, cells := 0, slots := 0, locals := 27 } : Room) s m #[(.ref a1), (.long q1)] below meth c s₁ [] 0 0 := Stand.of_body Bd
  have e0 : s₁.heap = h0 := by rw [← hh, Bd.state]; rfl
  have N0 := Fr.nil n0
  have pre0 : ∀ t, Steps p.tables e below (s₁.setTop (mkF m 0 #[.val (.ref a1), .val (.long q1), .second, .unset] [])) t → Steps p.tables e below (s₁.setTop (entryFrame m #[(.ref a1), (.long q1)] 4)) t := fun t k => castTop (ef_7_xx m a1 q1) k
  have J1 : ∀ t, Steps p.tables e below (s₁.setTop (mkF m 2 #[.val (.ref a1), .val (.long q1), .second, .unset] [(.ref a1), (.ref a1)])) t → Steps p.tables e below (s₁.setTop (entryFrame m #[(.ref a1), (.long q1)] 4)) t := fun t k => pre0 t (by
      show Steps p.tables e below (s₁.setTop (mkF m 0 #[.val (.ref a1), .val (.long q1), .second, .unset] [])) _
      refine XS.aloadN X0.here hx rfl (hb hby d7_0) rfl rfl ?_
      show Steps p.tables e below (s₁.setTop (mkF m 1 #[.val (.ref a1), .val (.long q1), .second, .unset] [(.ref a1)])) _
      refine XS.dup X0.here hx rfl (hb hby d7_1) rfl rfl ?_
      exact k)
  obtain ⟨T2, X2, e2, st2⟩ := getF X0 hx hZ hown (host := "") (Or.inl (hw _ (List.mem_of_getElem? (i := 29) rfl))) Via.refl e0 F_v3_a1 (g := (mkF m 2 #[.val (.ref a1), .val (.long q1), .second, .unset] [(.ref a1), (.ref a1)])) rfl rfl (hb hby d7_2)
  have J3 : ∀ t, Steps p.tables e below (T2.setTop (mkF m 5 #[.val (.ref a1), .val (.long q1), .second, .unset] [(.long x3), (.ref a1)])) t → Steps p.tables e below (s₁.setTop (entryFrame m #[(.ref a1), (.long q1)] 4)) t := fun t k => J1 t (st2 t k)
  have J4 : ∀ t, Steps p.tables e below (T2.setTop (mkF m 7 #[.val (.ref a1), .val (.long q1), .second, .unset] [(.long (x3 ^^^ q1)), (.ref a1)])) t → Steps p.tables e below (s₁.setTop (entryFrame m #[(.ref a1), (.long q1)] 4)) t := fun t k => J3 t (by
      show Steps p.tables e below (T2.setTop (mkF m 5 #[.val (.ref a1), .val (.long q1), .second, .unset] [(.long x3), (.ref a1)])) _
      refine XS.lloadN X2.here hx rfl (hb hby d7_5) rfl ?_
      show Steps p.tables e below (T2.setTop (mkF m 6 #[.val (.ref a1), .val (.long q1), .second, .unset] [(.long q1), (.long x3), (.ref a1)])) _
      refine XS.lxor X2.here hx rfl (hb hby d7_6) rfl ?_
      exact k)
  obtain ⟨T5, h5, X5, e5, W5, st5⟩ := putF X2 hx hZ hown (host := "") (Or.inl (hw _ (List.mem_of_getElem? (i := 29) rfl))) Via.refl e2 F_v3_a1 E_a1 (Or.inl (hw _ (List.mem_of_getElem? (i := 30) rfl))) (hw _ (List.mem_of_getElem? (i := 2) rfl)) (ty := .long) (by decide) rfl rfl (g := (mkF m 7 #[.val (.ref a1), .val (.long q1), .second, .unset] [(.long (x3 ^^^ q1)), (.ref a1)])) rfl rfl (hb hby d7_7)
  have J6 : ∀ t, Steps p.tables e below (T5.setTop (mkF m 10 #[.val (.ref a1), .val (.long q1), .second, .unset] [])) t → Steps p.tables e below (s₁.setTop (entryFrame m #[(.ref a1), (.long q1)] 4)) t := fun t k => J4 t (st5 t k)
  have Z7 : n0 ≤ h5.size := Nat.le_trans Z0 (Keep.of_wr W5).1
  have KK8 : Keep h0 h5 [a1] := (Keep.refl h0 [a1]).wr W5 (Or.inl (List.mem_of_getElem? (i := 0) rfl))
  have N9 := Fr.snoc X5 N0 g_a1
  have Fw5 := F_v3_a1.same W5
  have J10 : ∀ t, Steps p.tables e below (T5.setTop (mkF m 18 #[.val (.ref a1), .val (.long q1), .second, .val (.int (0 : Int32))] [(.ref a1)])) t → Steps p.tables e below (s₁.setTop (entryFrame m #[(.ref a1), (.long q1)] 4)) t := fun t k => J6 t (by
      show Steps p.tables e below (T5.setTop (mkF m 10 #[.val (.ref a1), .val (.long q1), .second, .unset] [])) _
      refine XS.iconst X5.here hx rfl (hb hby d7_10) ?_
      show Steps p.tables e below (T5.setTop (mkF m 11 #[.val (.ref a1), .val (.long q1), .second, .unset] [(.int (0 : Int32))])) _
      refine XS.istoreN X5.here hx rfl (hb hby d7_11) rfl (l' := #[.val (.ref a1), .val (.long q1), .second, .val (.int (0 : Int32))]) rfl ?_
      show Steps p.tables e below (T5.setTop (mkF m 12 #[.val (.ref a1), .val (.long q1), .second, .val (.int (0 : Int32))] [])) _
      refine XS.iloadN X5.here hx rfl (hb hby d7_12) rfl ?_
      show Steps p.tables e below (T5.setTop (mkF m 13 #[.val (.ref a1), .val (.long q1), .second, .val (.int (0 : Int32))] [(.int (0 : Int32))])) _
      refine XS.iconst X5.here hx rfl (hb hby d7_13) ?_
      show Steps p.tables e below (T5.setTop (mkF m 14 #[.val (.ref a1), .val (.long q1), .second, .val (.int (0 : Int32))] [(.int (1 : Int32)), (.int (0 : Int32))])) _
      refine XS.icmpNo X5.here hx rfl (hb hby d7_14) rfl (tlt (by decide)).2.1 ?_
      show Steps p.tables e below (T5.setTop (mkF m 17 #[.val (.ref a1), .val (.long q1), .second, .val (.int (0 : Int32))] [])) _
      refine XS.aloadN X5.here hx rfl (hb hby d7_17) rfl rfl ?_
      exact k)
  have f11 := E_a1.wr W5
  have f12 := F_key0_a1.other W5 (Or.inr (slot_ne (Or.inr (hw _ (List.mem_of_getElem? (i := 11) rfl))) (Or.inl (hw _ (List.mem_of_getElem? (i := 30) rfl))) (by decide) (t := .long) (t' := .long) (by decide) (by decide)))
  have f13 := F_key1_a1.other W5 (Or.inr (slot_ne (Or.inr (hw _ (List.mem_of_getElem? (i := 13) rfl))) (Or.inl (hw _ (List.mem_of_getElem? (i := 30) rfl))) (by decide) (t := .long) (t' := .long) (by decide) (by decide)))
  have f14 := F_v0_a1.other W5 (Or.inr (slot_ne (Or.inl (hw _ (List.mem_of_getElem? (i := 21) rfl))) (Or.inl (hw _ (List.mem_of_getElem? (i := 30) rfl))) (by decide) (t := .long) (t' := .long) (by decide) (by decide)))
  have f15 := F_v1_a1.other W5 (Or.inr (slot_ne (Or.inl (hw _ (List.mem_of_getElem? (i := 24) rfl))) (Or.inl (hw _ (List.mem_of_getElem? (i := 30) rfl))) (by decide) (t := .long) (t' := .long) (by decide) (by decide)))
  have f16 := F_v2_a1.other W5 (Or.inr (slot_ne (Or.inl (hw _ (List.mem_of_getElem? (i := 27) rfl))) (Or.inl (hw _ (List.mem_of_getElem? (i := 30) rfl))) (by decide) (t := .long) (t' := .long) (by decide) (by decide)))
  have f17 := F_word_a1.other W5 (Or.inr (slot_ne (Or.inl (hw _ (List.mem_of_getElem? (i := 32) rfl))) (Or.inl (hw _ (List.mem_of_getElem? (i := 30) rfl))) (by decide) (t := .long) (t' := .long) (by decide) (by decide)))
  have f18 := F_length_a1.other W5 (Or.inr (slot_ne (Or.inl (hw _ (List.mem_of_getElem? (i := 34) rfl))) (Or.inl (hw _ (List.mem_of_getElem? (i := 30) rfl))) (by decide) (t := .int) (t' := .long) (by decide) (by decide)))
  obtain ⟨cq19, q19, q19'⟩ := f11.cell
  obtain ⟨_, _, ⟨T19, L19, k19, n19⟩, -, X19, ⟨Lc19, hQ19, l19, y19, z19⟩, st19⟩ := X5.privateBack hx (y := (⟨"com/example/tranche/tranche/io/SipHash", "round", "()V"⟩ : MethodName)) hown (mvT hZ (hw _ (List.mem_of_getElem? (i := 54) rfl))) (mvT hZ (hw _ (List.mem_of_getElem? (i := 55) rfl))) (own_selp (mvT hZ (hw _ (List.mem_of_getElem? (i := 2) rfl))) (Cond.privateMethod_at (mvP hZ (hw _ (List.mem_of_getElem? (i := 56) rfl)) (args := #[]))) (mvT hZ (hw _ (List.mem_of_getElem? (i := 55) rfl))) (by decide)) (Cond.privateMethod_at (mvP hZ (hw _ (List.mem_of_getElem? (i := 56) rfl)) (args := #[]))) (mvT hZ (hw _ (List.mem_of_getElem? (i := 57) rfl))) (by decide) (backOf (W := 0) (rm8 l Z a0 hw [] a1 k0 k1 x0 x1 x2 (x3 ^^^ q1) x4 x5 h5 n0 Z7 f11 g_a1 f12 f13 f14 f15 f16 Fw5 f17 f18) hZ (hw _ (List.mem_of_getElem? (i := 57) rfl)) (hw _ (List.mem_of_getElem? (i := 3) rfl)) (by decide) (by decide)) (g := (mkF m 18 #[.val (.ref a1), .val (.long q1), .second, .val (.int (0 : Int32))] [(.ref a1)])) rfl (by rw [hml]; rfl) (Steps.refl _) (a := a1) (by rw [e5]; exact q19) q19' (argsL := []) (rest := []) (lenOf pd_1 rfl) rfl (by show 2 * 0 + _ ≤ _; exact Nat.le_of_eq rfl) (hb hby d7_18) (fun _ _ => ⟨rfl, e5, (by decide : 0 + 0 ≤ _), (by decide : 0 + 0 ≤ _)⟩)
  dsimp only [Pt.U, Pt.locs, Pt.cells, Pt.slots] at X19 l19 y19 z19 st19 hQ19
  subst l19 y19 z19
  obtain ⟨z0_19, z1_19, z2_19, z3_19, z4_19, z5_19, rfl, Nq19, K19, p19_1, p19_2, p19_3, p19_4, p19_5, p19_6, p19_7, p19_8, p19_9, p19_10⟩ := hQ19
  have N20 := Fr.app N9 Nq19
  have J21 : ∀ t, Steps p.tables e below (T19.setTop (mkF m 21 #[.val (.ref a1), .val (.long q1), .second, .val (.int (0 : Int32))] [])) t → Steps p.tables e below (s₁.setTop (entryFrame m #[(.ref a1), (.long q1)] 4)) t := fun t k => J10 t (st19.trans k)
  have Z22 : n0 ≤ T19.heap.size := Nat.le_trans Z7 K19.1
  have KK23 : Keep h0 T19.heap [a1] := KK8.trans K19 (allS (Or.inl (List.mem_of_getElem? (i := 0) rfl)) all0)
  have J24 : ∀ t, Steps p.tables e below (T19.setTop (mkF m 29 #[.val (.ref a1), .val (.long q1), .second, .val (.int ((0 : Int32) + (1 : Int32)))] [(.ref a1), (.ref a1)])) t → Steps p.tables e below (s₁.setTop (entryFrame m #[(.ref a1), (.long q1)] 4)) t := fun t k => J21 t (by
      show Steps p.tables e below (T19.setTop (mkF m 21 #[.val (.ref a1), .val (.long q1), .second, .val (.int (0 : Int32))] [])) _
      refine XS.iinc X19.here hx rfl (hb hby d7_21) rfl (l' := #[.val (.ref a1), .val (.long q1), .second, .val (.int ((0 : Int32) + (1 : Int32)))]) rfl ?_
      show Steps p.tables e below (T19.setTop (mkF m 24 #[.val (.ref a1), .val (.long q1), .second, .val (.int ((0 : Int32) + (1 : Int32)))] [])) _
      refine XS.goto X19.here hx rfl (pc0 := 24) (pc' := 12) rfl (hb hby d7_24) (by decide) (by decide) ?_
      show Steps p.tables e below (T19.setTop (mkF m 12 #[.val (.ref a1), .val (.long q1), .second, .val (.int ((0 : Int32) + (1 : Int32)))] [])) _
      refine XS.iloadN X19.here hx rfl (hb hby d7_12) rfl ?_
      show Steps p.tables e below (T19.setTop (mkF m 13 #[.val (.ref a1), .val (.long q1), .second, .val (.int ((0 : Int32) + (1 : Int32)))] [(.int ((0 : Int32) + (1 : Int32)))])) _
      refine XS.iconst X19.here hx rfl (hb hby d7_13) ?_
      show Steps p.tables e below (T19.setTop (mkF m 14 #[.val (.ref a1), .val (.long q1), .second, .val (.int ((0 : Int32) + (1 : Int32)))] [(.int (1 : Int32)), (.int ((0 : Int32) + (1 : Int32)))])) _
      refine XS.icmpYes X19.here hx rfl (pc0 := 14) (pc' := 27) rfl (hb hby d7_14) rfl (flt (by decide)).2.1 (by decide) (by decide) ?_
      show Steps p.tables e below (T19.setTop (mkF m 27 #[.val (.ref a1), .val (.long q1), .second, .val (.int ((0 : Int32) + (1 : Int32)))] [])) _
      refine XS.aloadN X19.here hx rfl (hb hby d7_27) rfl rfl ?_
      show Steps p.tables e below (T19.setTop (mkF m 28 #[.val (.ref a1), .val (.long q1), .second, .val (.int ((0 : Int32) + (1 : Int32)))] [(.ref a1)])) _
      refine XS.dup X19.here hx rfl (hb hby d7_28) rfl rfl ?_
      exact k)
  obtain ⟨T25, X25, e25, st25⟩ := getF X19 hx hZ hown (host := "") (Or.inl (hw _ (List.mem_of_getElem? (i := 20) rfl))) Via.refl rfl p19_4 (g := (mkF m 29 #[.val (.ref a1), .val (.long q1), .second, .val (.int ((0 : Int32) + (1 : Int32)))] [(.ref a1), (.ref a1)])) rfl rfl (hb hby d7_29)
  have J26 : ∀ t, Steps p.tables e below (T25.setTop (mkF m 32 #[.val (.ref a1), .val (.long q1), .second, .val (.int ((0 : Int32) + (1 : Int32)))] [(.long z0_19), (.ref a1)])) t → Steps p.tables e below (s₁.setTop (entryFrame m #[(.ref a1), (.long q1)] 4)) t := fun t k => J24 t (st25 t k)
  have J27 : ∀ t, Steps p.tables e below (T25.setTop (mkF m 34 #[.val (.ref a1), .val (.long q1), .second, .val (.int ((0 : Int32) + (1 : Int32)))] [(.long (z0_19 ^^^ q1)), (.ref a1)])) t → Steps p.tables e below (s₁.setTop (entryFrame m #[(.ref a1), (.long q1)] 4)) t := fun t k => J26 t (by
      show Steps p.tables e below (T25.setTop (mkF m 32 #[.val (.ref a1), .val (.long q1), .second, .val (.int ((0 : Int32) + (1 : Int32)))] [(.long z0_19), (.ref a1)])) _
      refine XS.lloadN X25.here hx rfl (hb hby d7_32) rfl ?_
      show Steps p.tables e below (T25.setTop (mkF m 33 #[.val (.ref a1), .val (.long q1), .second, .val (.int ((0 : Int32) + (1 : Int32)))] [(.long q1), (.long z0_19), (.ref a1)])) _
      refine XS.lxor X25.here hx rfl (hb hby d7_33) rfl ?_
      exact k)
  obtain ⟨T28, h28, X28, e28, W28, st28⟩ := putF X25 hx hZ hown (host := "") (Or.inl (hw _ (List.mem_of_getElem? (i := 20) rfl))) Via.refl e25 p19_4 p19_1 (Or.inl (hw _ (List.mem_of_getElem? (i := 21) rfl))) (hw _ (List.mem_of_getElem? (i := 2) rfl)) (ty := .long) (by decide) rfl rfl (g := (mkF m 34 #[.val (.ref a1), .val (.long q1), .second, .val (.int ((0 : Int32) + (1 : Int32)))] [(.long (z0_19 ^^^ q1)), (.ref a1)])) rfl rfl (hb hby d7_34)
  have J29 : ∀ t, Steps p.tables e below (T28.setTop (mkF m 37 #[.val (.ref a1), .val (.long q1), .second, .val (.int ((0 : Int32) + (1 : Int32)))] [])) t → Steps p.tables e below (s₁.setTop (entryFrame m #[(.ref a1), (.long q1)] 4)) t := fun t k => J27 t (st28 t k)
  have Z30 : n0 ≤ h28.size := Nat.le_trans Z22 (Keep.of_wr W28).1
  have KK31 : Keep h0 h28 [a1] := KK23.wr W28 (Or.inl (List.mem_of_getElem? (i := 0) rfl))
  have N32 := Fr.snoc X28 N20 g_a1
  have Fw28 := p19_4.same W28
  have hz : (((z0_19 ^^^ q1), z1_19, z2_19, z3_19, z4_19, z5_19) : SS) = own_cp ((x0, x1, x2, x3, x4, x5) : SS) q1 := by
    have q := p19_10
    show _ = ((own_round _).1 ^^^ q1, (own_round _).2)
    rw [← q]
  obtain ⟨fs, hr, hrun, hended, hW, hsame⟩ := X28.leave (v := none) (fun _ => rfl)
  have f33 := p19_1.wr W28
  have f34 := p19_2.other W28 (Or.inr (slot_ne (Or.inr (hw _ (List.mem_of_getElem? (i := 11) rfl))) (Or.inl (hw _ (List.mem_of_getElem? (i := 21) rfl))) (by decide) (t := .long) (t' := .long) (by decide) (by decide)))
  have f35 := p19_3.other W28 (Or.inr (slot_ne (Or.inr (hw _ (List.mem_of_getElem? (i := 13) rfl))) (Or.inl (hw _ (List.mem_of_getElem? (i := 21) rfl))) (by decide) (t := .long) (t' := .long) (by decide) (by decide)))
  have f36 := p19_5.other W28 (Or.inr (slot_ne (Or.inl (hw _ (List.mem_of_getElem? (i := 24) rfl))) (Or.inl (hw _ (List.mem_of_getElem? (i := 21) rfl))) (by decide) (t := .long) (t' := .long) (by decide) (by decide)))
  have f37 := p19_6.other W28 (Or.inr (slot_ne (Or.inl (hw _ (List.mem_of_getElem? (i := 27) rfl))) (Or.inl (hw _ (List.mem_of_getElem? (i := 21) rfl))) (by decide) (t := .long) (t' := .long) (by decide) (by decide)))
  have f38 := p19_7.other W28 (Or.inr (slot_ne (Or.inl (hw _ (List.mem_of_getElem? (i := 30) rfl))) (Or.inl (hw _ (List.mem_of_getElem? (i := 21) rfl))) (by decide) (t := .long) (t' := .long) (by decide) (by decide)))
  have f39 := p19_8.other W28 (Or.inr (slot_ne (Or.inl (hw _ (List.mem_of_getElem? (i := 32) rfl))) (Or.inl (hw _ (List.mem_of_getElem? (i := 21) rfl))) (by decide) (t := .long) (t' := .long) (by decide) (by decide)))
  have f40 := p19_9.other W28 (Or.inr (slot_ne (Or.inl (hw _ (List.mem_of_getElem? (i := 34) rfl))) (Or.inl (hw _ (List.mem_of_getElem? (i := 21) rfl))) (by decide) (t := .int) (t' := .long) (by decide) (by decide)))
  refine ⟨_, _, J29 _ ?_, hrun, hended, _, _, rfl, ?_, ⟨_, rfl⟩, hW, hsame.mono (by decide) (by decide)⟩
  · show Steps p.tables e below (T28.setTop (mkF m 37 #[.val (.ref a1), .val (.long q1), .second, .val (.int ((0 : Int32) + (1 : Int32)))] [])) _
    exact X28.returnOut hx Bd.returns (hb hby d7_37) hr
  · show Q7 Z a1 q1 k0 k1 x0 x1 x2 x3 x4 x5 h0 n0 _ T28.heap _
    rw [e28]
    exact ⟨(z0_19 ^^^ q1), z1_19, z2_19, z3_19, z4_19, z5_19, rfl, N32, KK31, f33, f34, f35, Fw28, f36, f37, f38, f39, f40, hz⟩
theorem d5_0 : decode prog_76_method_3_code 0 = .ok (.aload_n 0, 1) := by decide +kernel
theorem d5_1 : decode prog_76_method_3_code 1 = .ok (.dup, 1) := by decide +kernel
theorem d5_2 : decode prog_76_method_3_code 2 = .ok (.getfield 42, 3) := by decide +kernel
theorem d5_5 : decode prog_76_method_3_code 5 = .ok (.iload_n 1, 1) := by decide +kernel
theorem d5_6 : decode prog_76_method_3_code 6 = .ok (.i2l, 1) := by decide +kernel
theorem d5_7 : decode prog_76_method_3_code 7 = .ok (.bipush 16, 2) := by decide +kernel
theorem d5_9 : decode prog_76_method_3_code 9 = .ok (.aload_n 0, 1) := by decide +kernel
theorem d5_10 : decode prog_76_method_3_code 10 = .ok (.getfield 45, 3) := by decide +kernel
theorem d5_13 : decode prog_76_method_3_code 13 = .ok (.iconst 4, 1) := by decide +kernel
theorem d5_14 : decode prog_76_method_3_code 14 = .ok (.irem, 1) := by decide +kernel
theorem d5_15 : decode prog_76_method_3_code 15 = .ok (.imul, 1) := by decide +kernel
theorem d5_16 : decode prog_76_method_3_code 16 = .ok (.lshl, 1) := by decide +kernel
theorem d5_17 : decode prog_76_method_3_code 17 = .ok (.lor, 1) := by decide +kernel
theorem d5_18 : decode prog_76_method_3_code 18 = .ok (.putfield 42, 3) := by decide +kernel
theorem d5_21 : decode prog_76_method_3_code 21 = .ok (.aload_n 0, 1) := by decide +kernel
theorem d5_22 : decode prog_76_method_3_code 22 = .ok (.dup, 1) := by decide +kernel
theorem d5_23 : decode prog_76_method_3_code 23 = .ok (.getfield 45, 3) := by decide +kernel
theorem d5_26 : decode prog_76_method_3_code 26 = .ok (.iconst 1, 1) := by decide +kernel
theorem d5_27 : decode prog_76_method_3_code 27 = .ok (.iadd, 1) := by decide +kernel
theorem d5_28 : decode prog_76_method_3_code 28 = .ok (.putfield 45, 3) := by decide +kernel
theorem d5_31 : decode prog_76_method_3_code 31 = .ok (.aload_n 0, 1) := by decide +kernel
theorem d5_32 : decode prog_76_method_3_code 32 = .ok (.getfield 45, 3) := by decide +kernel
theorem d5_35 : decode prog_76_method_3_code 35 = .ok (.iconst 4, 1) := by decide +kernel
theorem d5_36 : decode prog_76_method_3_code 36 = .ok (.irem, 1) := by decide +kernel
theorem d5_37 : decode prog_76_method_3_code 37 = .ok (.ifCond .ne 16, 3) := by decide +kernel
theorem d5_40 : decode prog_76_method_3_code 40 = .ok (.aload_n 0, 1) := by decide +kernel
theorem d5_41 : decode prog_76_method_3_code 41 = .ok (.aload_n 0, 1) := by decide +kernel
theorem d5_42 : decode prog_76_method_3_code 42 = .ok (.getfield 42, 3) := by decide +kernel
theorem d5_45 : decode prog_76_method_3_code 45 = .ok (.invokevirtual 49, 3) := by decide +kernel
theorem pd_2 : parseMethodDescriptor "(J)V" = some ⟨[.long], none⟩ := by decide +kernel
theorem d5_48 : decode prog_76_method_3_code 48 = .ok (.aload_n 0, 1) := by decide +kernel
theorem d5_49 : decode prog_76_method_3_code 49 = .ok (.lconst 0, 1) := by decide +kernel
theorem d5_50 : decode prog_76_method_3_code 50 = .ok (.putfield 42, 3) := by decide +kernel
theorem d5_53 : decode prog_76_method_3_code 53 = .ok (.return_, 1) := by decide +kernel
theorem pn_5 : plainName "com/example/tranche/tranche/io/SipHash" = true := by first | (simp [plainName, overriddenIn]; done) | decide +kernel
theorem ef_5_xx (m : MethodId) (x0 : Addr) (x1 : Int32) : entryFrame m #[(.ref x0), (.int x1)] 2 = mkF m 0 #[.val (.ref x0), .val (.int x1)] [] := by first | (simp [entryFrame, mkF, argsToLocals, Value.category]; done) | rfl
def Q5 (Z : State) (a1 : Addr) (p1 : Int32) (k0 : Int64) (k1 : Int64) (x0 : Int64) (x1 : Int64) (x2 : Int64) (x3 : Int64) (x4 : Int64) (x5 : Int32) (h0 : Heap) (n0 : Nat) (v : Option Value) (h : Heap) (L : List Loc) : Prop := ∃ (z0 : Int64) (z1 : Int64) (z2 : Int64) (z3 : Int64) (z4 : Int64) (z5 : Int32), v = none ∧ Fr n0 L ∧ Keep h0 h [a1] ∧ (Exa Z h a1 "com/example/tranche/tranche/io/SipHash") ∧ (Fld Z h a1 "com/example/tranche/tranche/io/SipHash" "key0" "J" (.long k0)) ∧ (Fld Z h a1 "com/example/tranche/tranche/io/SipHash" "key1" "J" (.long k1)) ∧ (Fld Z h a1 "com/example/tranche/tranche/io/SipHash" "v0" "J" (.long z0)) ∧ (Fld Z h a1 "com/example/tranche/tranche/io/SipHash" "v1" "J" (.long z1)) ∧ (Fld Z h a1 "com/example/tranche/tranche/io/SipHash" "v2" "J" (.long z2)) ∧ (Fld Z h a1 "com/example/tranche/tranche/io/SipHash" "v3" "J" (.long z3)) ∧ (Fld Z h a1 "com/example/tranche/tranche/io/SipHash" "word" "J" (.long z4)) ∧ (Fld Z h a1 "com/example/tranche/tranche/io/SipHash" "length" "I" (.int z5)) ∧ (((z0, z1, z2, z3, z4, z5) : SS) = own_add ((x0, x1, x2, x3, x4, x5) : SS) p1)
set_option maxRecDepth 65536 in
set_option maxHeartbeats 40000000 in
theorem rm5 (l : Launch) (Z : State) (a0 : Array Value) (hw : ∀ d ∈ tables_1, d.before a0 Z = true) (ws : List Jvm.Cond) (a1 : Addr) (p1 : Int32) (k0 : Int64) (k1 : Int64) (x0 : Int64) (x1 : Int64) (x2 : Int64) (x3 : Int64) (x4 : Int64) (x5 : Int32) (h0 : Heap) (n0 : Nat) (Z0 : n0 ≤ h0.size) (E_a1 : Exa Z h0 a1 "com/example/tranche/tranche/io/SipHash") (g_a1 : n0 ≤ a1) (F_key0_a1 : Fld Z h0 a1 "com/example/tranche/tranche/io/SipHash" "key0" "J" (.long k0)) (F_key1_a1 : Fld Z h0 a1 "com/example/tranche/tranche/io/SipHash" "key1" "J" (.long k1)) (F_v0_a1 : Fld Z h0 a1 "com/example/tranche/tranche/io/SipHash" "v0" "J" (.long x0)) (F_v1_a1 : Fld Z h0 a1 "com/example/tranche/tranche/io/SipHash" "v1" "J" (.long x1)) (F_v2_a1 : Fld Z h0 a1 "com/example/tranche/tranche/io/SipHash" "v2" "J" (.long x2)) (F_v3_a1 : Fld Z h0 a1 "com/example/tranche/tranche/io/SipHash" "v3" "J" (.long x3)) (F_word_a1 : Fld Z h0 a1 "com/example/tranche/tranche/io/SipHash" "word" "J" (.long x4)) (F_length_a1 : Fld Z h0 a1 "com/example/tranche/tranche/io/SipHash" "length" "I" (.int x5)) :
    MetFree l (⟨"com/example/tranche/tranche/io/SipHash", "add", "(C)V"⟩ : MethodName) (head1 (Jvm.Cond.code (⟨"com/example/tranche/tranche/io/SipHash", "add", "(C)V"⟩ : MethodName) prog_76_method_3_code 2 none :: ws) ({ frames := 3, cells := 0, slots := 0, locals := 42 } : Room)) (fun a U => a = #[(.ref a1), (.int p1)] ∧ Z.Warmed39 U.vm ∧ U.heap = h0) (fun _ _ _ _ _ => True) (fun _ U o U' => ∃ v L, o = .returned v ∧ Q5 Z a1 p1 k0 k1 x0 x1 x2 x3 x4 x5 h0 n0 v U'.heap L ∧ FrameEnd U o U' L ({ frames := 3, cells := 0, slots := 0, locals := 42 } : Room).cells ({ frames := 3, cells := 0, slots := 0, locals := 42 } : Room).slots) := by
  refine MetFree.of_bodySF (plainFor_of_name pn_5) hisR ?_
  intro p e s m args below meth c s₁ Bd hml0 hP hK
  obtain ⟨rfl, hZ, hh⟩ := hP
  have hx := Bd.exec
  have hby := Bd.bytes
  have hml : c.maxLocals = 2 := hml0
  have hown : s.vm.findClass "com/example/tranche/tranche/io/SipHash" = some m.cls := findClass_of_methodNamed Bd.named
  have hnm := (name_of_methodNamed Bd.named Bd.method).1
  have X0 : Stand p l e ({ frames := 3, cells := 0, slots := 0, locals := 42 } : Room) s m #[(.ref a1), (.int p1)] below meth c s₁ [] 0 0 := Stand.of_body Bd
  have e0 : s₁.heap = h0 := by rw [← hh, Bd.state]; rfl
  have N0 := Fr.nil n0
  have pre0 : ∀ t, Steps p.tables e below (s₁.setTop (mkF m 0 #[.val (.ref a1), .val (.int p1)] [])) t → Steps p.tables e below (s₁.setTop (entryFrame m #[(.ref a1), (.int p1)] 2)) t := fun t k => castTop (ef_5_xx m a1 p1) k
  have J1 : ∀ t, Steps p.tables e below (s₁.setTop (mkF m 2 #[.val (.ref a1), .val (.int p1)] [(.ref a1), (.ref a1)])) t → Steps p.tables e below (s₁.setTop (entryFrame m #[(.ref a1), (.int p1)] 2)) t := fun t k => pre0 t (by
      show Steps p.tables e below (s₁.setTop (mkF m 0 #[.val (.ref a1), .val (.int p1)] [])) _
      refine XS.aloadN X0.here hx rfl (hb hby d5_0) rfl rfl ?_
      show Steps p.tables e below (s₁.setTop (mkF m 1 #[.val (.ref a1), .val (.int p1)] [(.ref a1)])) _
      refine XS.dup X0.here hx rfl (hb hby d5_1) rfl rfl ?_
      exact k)
  obtain ⟨T2, X2, e2, st2⟩ := getF X0 hx hZ hown (host := "") (Or.inl (hw _ (List.mem_of_getElem? (i := 31) rfl))) Via.refl e0 F_word_a1 (g := (mkF m 2 #[.val (.ref a1), .val (.int p1)] [(.ref a1), (.ref a1)])) rfl rfl (hb hby d5_2)
  have J3 : ∀ t, Steps p.tables e below (T2.setTop (mkF m 5 #[.val (.ref a1), .val (.int p1)] [(.long x4), (.ref a1)])) t → Steps p.tables e below (s₁.setTop (entryFrame m #[(.ref a1), (.int p1)] 2)) t := fun t k => J1 t (st2 t k)
  have J4 : ∀ t, Steps p.tables e below (T2.setTop (mkF m 10 #[.val (.ref a1), .val (.int p1)] [(.ref a1), (.int (16 : Int32)), (.long (p1.toInt64)), (.long x4), (.ref a1)])) t → Steps p.tables e below (s₁.setTop (entryFrame m #[(.ref a1), (.int p1)] 2)) t := fun t k => J3 t (by
      show Steps p.tables e below (T2.setTop (mkF m 5 #[.val (.ref a1), .val (.int p1)] [(.long x4), (.ref a1)])) _
      refine XS.iloadN X2.here hx rfl (hb hby d5_5) rfl ?_
      show Steps p.tables e below (T2.setTop (mkF m 6 #[.val (.ref a1), .val (.int p1)] [(.int p1), (.long x4), (.ref a1)])) _
      refine XS.i2l X2.here hx rfl (hb hby d5_6) rfl ?_
      show Steps p.tables e below (T2.setTop (mkF m 7 #[.val (.ref a1), .val (.int p1)] [(.long (p1.toInt64)), (.long x4), (.ref a1)])) _
      refine XS.bipush X2.here hx rfl (hb hby d5_7) ?_
      show Steps p.tables e below (T2.setTop (mkF m 9 #[.val (.ref a1), .val (.int p1)] [(.int (16 : Int32)), (.long (p1.toInt64)), (.long x4), (.ref a1)])) _
      refine XS.aloadN X2.here hx rfl (hb hby d5_9) rfl rfl ?_
      exact k)
  obtain ⟨T5, X5, e5, st5⟩ := getF X2 hx hZ hown (host := "") (Or.inl (hw _ (List.mem_of_getElem? (i := 33) rfl))) Via.refl e2 F_length_a1 (g := (mkF m 10 #[.val (.ref a1), .val (.int p1)] [(.ref a1), (.int (16 : Int32)), (.long (p1.toInt64)), (.long x4), (.ref a1)])) rfl rfl (hb hby d5_10)
  have J6 : ∀ t, Steps p.tables e below (T5.setTop (mkF m 13 #[.val (.ref a1), .val (.int p1)] [(.int x5), (.int (16 : Int32)), (.long (p1.toInt64)), (.long x4), (.ref a1)])) t → Steps p.tables e below (s₁.setTop (entryFrame m #[(.ref a1), (.int p1)] 2)) t := fun t k => J4 t (st5 t k)
  have J7 : ∀ t, Steps p.tables e below (T5.setTop (mkF m 18 #[.val (.ref a1), .val (.int p1)] [(.long (x4 ||| ((p1.toInt64) <<< (((16 : Int32) * (x5 % (4 : Int32))) &&& 0x3f).toInt64))), (.ref a1)])) t → Steps p.tables e below (s₁.setTop (entryFrame m #[(.ref a1), (.int p1)] 2)) t := fun t k => J6 t (by
      show Steps p.tables e below (T5.setTop (mkF m 13 #[.val (.ref a1), .val (.int p1)] [(.int x5), (.int (16 : Int32)), (.long (p1.toInt64)), (.long x4), (.ref a1)])) _
      refine XS.iconst X5.here hx rfl (hb hby d5_13) ?_
      show Steps p.tables e below (T5.setTop (mkF m 14 #[.val (.ref a1), .val (.int p1)] [(.int (4 : Int32)), (.int x5), (.int (16 : Int32)), (.long (p1.toInt64)), (.long x4), (.ref a1)])) _
      refine iremM X5 hx rfl (hb hby d5_14) rfl (by decide) ?_
      show Steps p.tables e below (T5.setTop (mkF m 15 #[.val (.ref a1), .val (.int p1)] [(.int (x5 % (4 : Int32))), (.int (16 : Int32)), (.long (p1.toInt64)), (.long x4), (.ref a1)])) _
      refine XS.imul X5.here hx rfl (hb hby d5_15) rfl ?_
      show Steps p.tables e below (T5.setTop (mkF m 16 #[.val (.ref a1), .val (.int p1)] [(.int ((16 : Int32) * (x5 % (4 : Int32)))), (.long (p1.toInt64)), (.long x4), (.ref a1)])) _
      refine XS.lshl X5.here hx rfl (hb hby d5_16) rfl ?_
      show Steps p.tables e below (T5.setTop (mkF m 17 #[.val (.ref a1), .val (.int p1)] [(.long ((p1.toInt64) <<< (((16 : Int32) * (x5 % (4 : Int32))) &&& 0x3f).toInt64)), (.long x4), (.ref a1)])) _
      refine XS.lor X5.here hx rfl (hb hby d5_17) rfl ?_
      exact k)
  obtain ⟨T8, h8, X8, e8, W8, st8⟩ := putF X5 hx hZ hown (host := "") (Or.inl (hw _ (List.mem_of_getElem? (i := 31) rfl))) Via.refl e5 F_word_a1 E_a1 (Or.inl (hw _ (List.mem_of_getElem? (i := 32) rfl))) (hw _ (List.mem_of_getElem? (i := 2) rfl)) (ty := .long) (by decide) rfl rfl (g := (mkF m 18 #[.val (.ref a1), .val (.int p1)] [(.long (x4 ||| ((p1.toInt64) <<< (((16 : Int32) * (x5 % (4 : Int32))) &&& 0x3f).toInt64))), (.ref a1)])) rfl rfl (hb hby d5_18)
  have J9 : ∀ t, Steps p.tables e below (T8.setTop (mkF m 21 #[.val (.ref a1), .val (.int p1)] [])) t → Steps p.tables e below (s₁.setTop (entryFrame m #[(.ref a1), (.int p1)] 2)) t := fun t k => J7 t (st8 t k)
  have Z10 : n0 ≤ h8.size := Nat.le_trans Z0 (Keep.of_wr W8).1
  have KK11 : Keep h0 h8 [a1] := (Keep.refl h0 [a1]).wr W8 (Or.inl (List.mem_of_getElem? (i := 0) rfl))
  have N12 := Fr.snoc X8 N0 g_a1
  have Fw8 := F_word_a1.same W8
  have J13 : ∀ t, Steps p.tables e below (T8.setTop (mkF m 23 #[.val (.ref a1), .val (.int p1)] [(.ref a1), (.ref a1)])) t → Steps p.tables e below (s₁.setTop (entryFrame m #[(.ref a1), (.int p1)] 2)) t := fun t k => J9 t (by
      show Steps p.tables e below (T8.setTop (mkF m 21 #[.val (.ref a1), .val (.int p1)] [])) _
      refine XS.aloadN X8.here hx rfl (hb hby d5_21) rfl rfl ?_
      show Steps p.tables e below (T8.setTop (mkF m 22 #[.val (.ref a1), .val (.int p1)] [(.ref a1)])) _
      refine XS.dup X8.here hx rfl (hb hby d5_22) rfl rfl ?_
      exact k)
  have f14 := F_length_a1.other W8 (Or.inr (slot_ne (Or.inl (hw _ (List.mem_of_getElem? (i := 34) rfl))) (Or.inl (hw _ (List.mem_of_getElem? (i := 32) rfl))) (by decide) (t := .int) (t' := .long) (by decide) (by decide)))
  obtain ⟨T15, X15, e15, st15⟩ := getF X8 hx hZ hown (host := "") (Or.inl (hw _ (List.mem_of_getElem? (i := 33) rfl))) Via.refl e8 f14 (g := (mkF m 23 #[.val (.ref a1), .val (.int p1)] [(.ref a1), (.ref a1)])) rfl rfl (hb hby d5_23)
  have J16 : ∀ t, Steps p.tables e below (T15.setTop (mkF m 26 #[.val (.ref a1), .val (.int p1)] [(.int x5), (.ref a1)])) t → Steps p.tables e below (s₁.setTop (entryFrame m #[(.ref a1), (.int p1)] 2)) t := fun t k => J13 t (st15 t k)
  have J17 : ∀ t, Steps p.tables e below (T15.setTop (mkF m 28 #[.val (.ref a1), .val (.int p1)] [(.int (x5 + (1 : Int32))), (.ref a1)])) t → Steps p.tables e below (s₁.setTop (entryFrame m #[(.ref a1), (.int p1)] 2)) t := fun t k => J16 t (by
      show Steps p.tables e below (T15.setTop (mkF m 26 #[.val (.ref a1), .val (.int p1)] [(.int x5), (.ref a1)])) _
      refine XS.iconst X15.here hx rfl (hb hby d5_26) ?_
      show Steps p.tables e below (T15.setTop (mkF m 27 #[.val (.ref a1), .val (.int p1)] [(.int (1 : Int32)), (.int x5), (.ref a1)])) _
      refine XS.iadd X15.here hx rfl (hb hby d5_27) rfl ?_
      exact k)
  have f18 := E_a1.wr W8
  obtain ⟨T19, h19, X19, e19, W19, st19⟩ := putF X15 hx hZ hown (host := "") (Or.inl (hw _ (List.mem_of_getElem? (i := 33) rfl))) Via.refl e15 f14 f18 (Or.inl (hw _ (List.mem_of_getElem? (i := 34) rfl))) (hw _ (List.mem_of_getElem? (i := 2) rfl)) (ty := .int) (by decide) rfl rfl (g := (mkF m 28 #[.val (.ref a1), .val (.int p1)] [(.int (x5 + (1 : Int32))), (.ref a1)])) rfl rfl (hb hby d5_28)
  have J20 : ∀ t, Steps p.tables e below (T19.setTop (mkF m 31 #[.val (.ref a1), .val (.int p1)] [])) t → Steps p.tables e below (s₁.setTop (entryFrame m #[(.ref a1), (.int p1)] 2)) t := fun t k => J17 t (st19 t k)
  have Z21 : n0 ≤ h19.size := Nat.le_trans Z10 (Keep.of_wr W19).1
  have KK22 : Keep h0 h19 [a1] := KK11.wr W19 (Or.inl (List.mem_of_getElem? (i := 0) rfl))
  have N23 := Fr.snoc X19 N12 g_a1
  have Fw19 := f14.same W19
  have J24 : ∀ t, Steps p.tables e below (T19.setTop (mkF m 32 #[.val (.ref a1), .val (.int p1)] [(.ref a1)])) t → Steps p.tables e below (s₁.setTop (entryFrame m #[(.ref a1), (.int p1)] 2)) t := fun t k => J20 t (by
      show Steps p.tables e below (T19.setTop (mkF m 31 #[.val (.ref a1), .val (.int p1)] [])) _
      refine XS.aloadN X19.here hx rfl (hb hby d5_31) rfl rfl ?_
      exact k)
  obtain ⟨T25, X25, e25, st25⟩ := getF X19 hx hZ hown (host := "") (Or.inl (hw _ (List.mem_of_getElem? (i := 33) rfl))) Via.refl e19 Fw19 (g := (mkF m 32 #[.val (.ref a1), .val (.int p1)] [(.ref a1)])) rfl rfl (hb hby d5_32)
  have J26 : ∀ t, Steps p.tables e below (T25.setTop (mkF m 35 #[.val (.ref a1), .val (.int p1)] [(.int (x5 + (1 : Int32)))])) t → Steps p.tables e below (s₁.setTop (entryFrame m #[(.ref a1), (.int p1)] 2)) t := fun t k => J24 t (st25 t k)
  have J27 : ∀ t, Steps p.tables e below (T25.setTop (mkF m 37 #[.val (.ref a1), .val (.int p1)] [(.int ((x5 + (1 : Int32)) % (4 : Int32)))])) t → Steps p.tables e below (s₁.setTop (entryFrame m #[(.ref a1), (.int p1)] 2)) t := fun t k => J26 t (by
      show Steps p.tables e below (T25.setTop (mkF m 35 #[.val (.ref a1), .val (.int p1)] [(.int (x5 + (1 : Int32)))])) _
      refine XS.iconst X25.here hx rfl (hb hby d5_35) ?_
      show Steps p.tables e below (T25.setTop (mkF m 36 #[.val (.ref a1), .val (.int p1)] [(.int (4 : Int32)), (.int (x5 + (1 : Int32)))])) _
      refine iremM X25 hx rfl (hb hby d5_36) rfl (by decide) ?_
      exact k)
  by_cases hz : (((x5 + (1 : Int32)) % (4 : Int32))) = (0 : Int32)
  ·
    have J28 : ∀ t, Steps p.tables e below (T25.setTop (mkF m 42 #[.val (.ref a1), .val (.int p1)] [(.ref a1), (.ref a1)])) t → Steps p.tables e below (s₁.setTop (entryFrame m #[(.ref a1), (.int p1)] 2)) t := fun t k => J27 t (by
        show Steps p.tables e below (T25.setTop (mkF m 37 #[.val (.ref a1), .val (.int p1)] [(.int ((x5 + (1 : Int32)) % (4 : Int32)))])) _
        refine XS.ifNo X25.here hx rfl (hb hby d5_37) rfl ((if0 _ _).trans (teq hz).2) ?_
        show Steps p.tables e below (T25.setTop (mkF m 40 #[.val (.ref a1), .val (.int p1)] [])) _
        refine XS.aloadN X25.here hx rfl (hb hby d5_40) rfl rfl ?_
        show Steps p.tables e below (T25.setTop (mkF m 41 #[.val (.ref a1), .val (.int p1)] [(.ref a1)])) _
        refine XS.aloadN X25.here hx rfl (hb hby d5_41) rfl rfl ?_
        exact k)
    have f29 := Fw8.other W19 (Or.inr (slot_ne (Or.inl (hw _ (List.mem_of_getElem? (i := 32) rfl))) (Or.inl (hw _ (List.mem_of_getElem? (i := 34) rfl))) (by decide) (t := .long) (t' := .int) (by decide) (by decide)))
    obtain ⟨T30, X30, e30, st30⟩ := getF X25 hx hZ hown (host := "") (Or.inl (hw _ (List.mem_of_getElem? (i := 31) rfl))) Via.refl e25 f29 (g := (mkF m 42 #[.val (.ref a1), .val (.int p1)] [(.ref a1), (.ref a1)])) rfl rfl (hb hby d5_42)
    have J31 : ∀ t, Steps p.tables e below (T30.setTop (mkF m 45 #[.val (.ref a1), .val (.int p1)] [(.long (x4 ||| ((p1.toInt64) <<< (((16 : Int32) * (x5 % (4 : Int32))) &&& 0x3f).toInt64))), (.ref a1)])) t → Steps p.tables e below (s₁.setTop (entryFrame m #[(.ref a1), (.int p1)] 2)) t := fun t k => J28 t (st30 t k)
    have f32 := f18.wr W19
    have f33 := F_key0_a1.other W8 (Or.inr (slot_ne (Or.inr (hw _ (List.mem_of_getElem? (i := 11) rfl))) (Or.inl (hw _ (List.mem_of_getElem? (i := 32) rfl))) (by decide) (t := .long) (t' := .long) (by decide) (by decide)))
    have f34 := f33.other W19 (Or.inr (slot_ne (Or.inr (hw _ (List.mem_of_getElem? (i := 11) rfl))) (Or.inl (hw _ (List.mem_of_getElem? (i := 34) rfl))) (by decide) (t := .long) (t' := .int) (by decide) (by decide)))
    have f35 := F_key1_a1.other W8 (Or.inr (slot_ne (Or.inr (hw _ (List.mem_of_getElem? (i := 13) rfl))) (Or.inl (hw _ (List.mem_of_getElem? (i := 32) rfl))) (by decide) (t := .long) (t' := .long) (by decide) (by decide)))
    have f36 := f35.other W19 (Or.inr (slot_ne (Or.inr (hw _ (List.mem_of_getElem? (i := 13) rfl))) (Or.inl (hw _ (List.mem_of_getElem? (i := 34) rfl))) (by decide) (t := .long) (t' := .int) (by decide) (by decide)))
    have f37 := F_v0_a1.other W8 (Or.inr (slot_ne (Or.inl (hw _ (List.mem_of_getElem? (i := 21) rfl))) (Or.inl (hw _ (List.mem_of_getElem? (i := 32) rfl))) (by decide) (t := .long) (t' := .long) (by decide) (by decide)))
    have f38 := f37.other W19 (Or.inr (slot_ne (Or.inl (hw _ (List.mem_of_getElem? (i := 21) rfl))) (Or.inl (hw _ (List.mem_of_getElem? (i := 34) rfl))) (by decide) (t := .long) (t' := .int) (by decide) (by decide)))
    have f39 := F_v1_a1.other W8 (Or.inr (slot_ne (Or.inl (hw _ (List.mem_of_getElem? (i := 24) rfl))) (Or.inl (hw _ (List.mem_of_getElem? (i := 32) rfl))) (by decide) (t := .long) (t' := .long) (by decide) (by decide)))
    have f40 := f39.other W19 (Or.inr (slot_ne (Or.inl (hw _ (List.mem_of_getElem? (i := 24) rfl))) (Or.inl (hw _ (List.mem_of_getElem? (i := 34) rfl))) (by decide) (t := .long) (t' := .int) (by decide) (by decide)))
    have f41 := F_v2_a1.other W8 (Or.inr (slot_ne (Or.inl (hw _ (List.mem_of_getElem? (i := 27) rfl))) (Or.inl (hw _ (List.mem_of_getElem? (i := 32) rfl))) (by decide) (t := .long) (t' := .long) (by decide) (by decide)))
    have f42 := f41.other W19 (Or.inr (slot_ne (Or.inl (hw _ (List.mem_of_getElem? (i := 27) rfl))) (Or.inl (hw _ (List.mem_of_getElem? (i := 34) rfl))) (by decide) (t := .long) (t' := .int) (by decide) (by decide)))
    have f43 := F_v3_a1.other W8 (Or.inr (slot_ne (Or.inl (hw _ (List.mem_of_getElem? (i := 30) rfl))) (Or.inl (hw _ (List.mem_of_getElem? (i := 32) rfl))) (by decide) (t := .long) (t' := .long) (by decide) (by decide)))
    have f44 := f43.other W19 (Or.inr (slot_ne (Or.inl (hw _ (List.mem_of_getElem? (i := 30) rfl))) (Or.inl (hw _ (List.mem_of_getElem? (i := 34) rfl))) (by decide) (t := .long) (t' := .int) (by decide) (by decide)))
    obtain ⟨cq45, q45, q45'⟩ := f32.cell
    obtain ⟨_, _, ⟨T45, L45, k45, n45⟩, -, X45, ⟨Lc45, hQ45, l45, y45, z45⟩, st45⟩ := X30.privateBack hx (y := (⟨"com/example/tranche/tranche/io/SipHash", "compress", "(J)V"⟩ : MethodName)) hown (mvT hZ (hw _ (List.mem_of_getElem? (i := 50) rfl))) (mvT hZ (hw _ (List.mem_of_getElem? (i := 51) rfl))) (own_selp (mvT hZ (hw _ (List.mem_of_getElem? (i := 2) rfl))) (Cond.privateMethod_at (mvP hZ (hw _ (List.mem_of_getElem? (i := 52) rfl)) (args := #[]))) (mvT hZ (hw _ (List.mem_of_getElem? (i := 51) rfl))) (by decide)) (Cond.privateMethod_at (mvP hZ (hw _ (List.mem_of_getElem? (i := 52) rfl)) (args := #[]))) (mvT hZ (hw _ (List.mem_of_getElem? (i := 53) rfl))) (by decide) (backOf (W := 0) (rm7 l Z a0 hw [] a1 (x4 ||| ((p1.toInt64) <<< (((16 : Int32) * (x5 % (4 : Int32))) &&& 0x3f).toInt64)) k0 k1 x0 x1 x2 x3 (x4 ||| ((p1.toInt64) <<< (((16 : Int32) * (x5 % (4 : Int32))) &&& 0x3f).toInt64)) (x5 + (1 : Int32)) h19 n0 Z21 f32 g_a1 f34 f36 f38 f40 f42 f44 f29 Fw19) hZ (hw _ (List.mem_of_getElem? (i := 53) rfl)) (hw _ (List.mem_of_getElem? (i := 3) rfl)) (by decide) (by decide)) (g := (mkF m 45 #[.val (.ref a1), .val (.int p1)] [(.long (x4 ||| ((p1.toInt64) <<< (((16 : Int32) * (x5 % (4 : Int32))) &&& 0x3f).toInt64))), (.ref a1)])) rfl (by rw [hml]; rfl) (Steps.refl _) (a := a1) (by rw [e30]; exact q45) q45' (argsL := [(.long (x4 ||| ((p1.toInt64) <<< (((16 : Int32) * (x5 % (4 : Int32))) &&& 0x3f).toInt64)))]) (rest := []) (lenOf pd_2 rfl) rfl (by show 2 * 0 + _ ≤ _; exact Nat.le_of_eq rfl) (hb hby d5_45) (fun _ _ => ⟨rfl, e30, (by decide : 0 + 0 ≤ _), (by decide : 0 + 0 ≤ _)⟩)
    dsimp only [Pt.U, Pt.locs, Pt.cells, Pt.slots] at X45 l45 y45 z45 st45 hQ45
    subst l45 y45 z45
    obtain ⟨z0_45, z1_45, z2_45, z3_45, z4_45, z5_45, rfl, Nq45, K45, p45_1, p45_2, p45_3, p45_4, p45_5, p45_6, p45_7, p45_8, p45_9, p45_10⟩ := hQ45
    have N46 := Fr.app N23 Nq45
    have J47 : ∀ t, Steps p.tables e below (T45.setTop (mkF m 48 #[.val (.ref a1), .val (.int p1)] [])) t → Steps p.tables e below (s₁.setTop (entryFrame m #[(.ref a1), (.int p1)] 2)) t := fun t k => J31 t (st45.trans k)
    have Z48 : n0 ≤ T45.heap.size := Nat.le_trans Z21 K45.1
    have KK49 : Keep h0 T45.heap [a1] := KK22.trans K45 (allS (Or.inl (List.mem_of_getElem? (i := 0) rfl)) all0)
    have J50 : ∀ t, Steps p.tables e below (T45.setTop (mkF m 50 #[.val (.ref a1), .val (.int p1)] [(.long (0 : Int64)), (.ref a1)])) t → Steps p.tables e below (s₁.setTop (entryFrame m #[(.ref a1), (.int p1)] 2)) t := fun t k => J47 t (by
        show Steps p.tables e below (T45.setTop (mkF m 48 #[.val (.ref a1), .val (.int p1)] [])) _
        refine XS.aloadN X45.here hx rfl (hb hby d5_48) rfl rfl ?_
        show Steps p.tables e below (T45.setTop (mkF m 49 #[.val (.ref a1), .val (.int p1)] [(.ref a1)])) _
        refine XS.lconst X45.here hx rfl (hb hby d5_49) ?_
        exact k)
    obtain ⟨T51, h51, X51, e51, W51, st51⟩ := putF X45 hx hZ hown (host := "") (Or.inl (hw _ (List.mem_of_getElem? (i := 31) rfl))) Via.refl rfl p45_8 p45_1 (Or.inl (hw _ (List.mem_of_getElem? (i := 32) rfl))) (hw _ (List.mem_of_getElem? (i := 2) rfl)) (ty := .long) (by decide) rfl rfl (g := (mkF m 50 #[.val (.ref a1), .val (.int p1)] [(.long (0 : Int64)), (.ref a1)])) rfl rfl (hb hby d5_50)
    have J52 : ∀ t, Steps p.tables e below (T51.setTop (mkF m 53 #[.val (.ref a1), .val (.int p1)] [])) t → Steps p.tables e below (s₁.setTop (entryFrame m #[(.ref a1), (.int p1)] 2)) t := fun t k => J50 t (st51 t k)
    have Z53 : n0 ≤ h51.size := Nat.le_trans Z48 (Keep.of_wr W51).1
    have KK54 : Keep h0 h51 [a1] := KK49.wr W51 (Or.inl (List.mem_of_getElem? (i := 0) rfl))
    have N55 := Fr.snoc X51 N46 g_a1
    have Fw51 := p45_8.same W51
    have hy : ((z0_45, z1_45, z2_45, z3_45, (0 : Int64), z5_45) : SS) = own_add ((x0, x1, x2, x3, x4, x5) : SS) p1 := own_add1 (S := ((x0, x1, x2, x3, x4, x5) : SS)) (ch := p1) (T := (z0_45, z1_45, z2_45, z3_45, z4_45, z5_45)) (U := (x0, x1, x2, x3, (x4 ||| ((p1.toInt64) <<< (((16 : Int32) * (x5 % (4 : Int32))) &&& 0x3f).toInt64)), (x5 + (1 : Int32)))) hz rfl p45_10
    obtain ⟨fs, hr, hrun, hended, hW, hsame⟩ := X51.leave (v := none) (fun _ => rfl)
    have f56 := p45_1.wr W51
    have f57 := p45_2.other W51 (Or.inr (slot_ne (Or.inr (hw _ (List.mem_of_getElem? (i := 11) rfl))) (Or.inl (hw _ (List.mem_of_getElem? (i := 32) rfl))) (by decide) (t := .long) (t' := .long) (by decide) (by decide)))
    have f58 := p45_3.other W51 (Or.inr (slot_ne (Or.inr (hw _ (List.mem_of_getElem? (i := 13) rfl))) (Or.inl (hw _ (List.mem_of_getElem? (i := 32) rfl))) (by decide) (t := .long) (t' := .long) (by decide) (by decide)))
    have f59 := p45_4.other W51 (Or.inr (slot_ne (Or.inl (hw _ (List.mem_of_getElem? (i := 21) rfl))) (Or.inl (hw _ (List.mem_of_getElem? (i := 32) rfl))) (by decide) (t := .long) (t' := .long) (by decide) (by decide)))
    have f60 := p45_5.other W51 (Or.inr (slot_ne (Or.inl (hw _ (List.mem_of_getElem? (i := 24) rfl))) (Or.inl (hw _ (List.mem_of_getElem? (i := 32) rfl))) (by decide) (t := .long) (t' := .long) (by decide) (by decide)))
    have f61 := p45_6.other W51 (Or.inr (slot_ne (Or.inl (hw _ (List.mem_of_getElem? (i := 27) rfl))) (Or.inl (hw _ (List.mem_of_getElem? (i := 32) rfl))) (by decide) (t := .long) (t' := .long) (by decide) (by decide)))
    have f62 := p45_7.other W51 (Or.inr (slot_ne (Or.inl (hw _ (List.mem_of_getElem? (i := 30) rfl))) (Or.inl (hw _ (List.mem_of_getElem? (i := 32) rfl))) (by decide) (t := .long) (t' := .long) (by decide) (by decide)))
    have f63 := p45_9.other W51 (Or.inr (slot_ne (Or.inl (hw _ (List.mem_of_getElem? (i := 34) rfl))) (Or.inl (hw _ (List.mem_of_getElem? (i := 32) rfl))) (by decide) (t := .int) (t' := .long) (by decide) (by decide)))
    refine ⟨_, _, J52 _ ?_, hrun, hended, _, _, rfl, ?_, ⟨_, rfl⟩, hW, hsame.mono (by decide) (by decide)⟩
    · show Steps p.tables e below (T51.setTop (mkF m 53 #[.val (.ref a1), .val (.int p1)] [])) _
      exact X51.returnOut hx Bd.returns (hb hby d5_53) hr
    · show Q5 Z a1 p1 k0 k1 x0 x1 x2 x3 x4 x5 h0 n0 _ T51.heap _
      rw [e51]
      exact ⟨z0_45, z1_45, z2_45, z3_45, (0 : Int64), z5_45, rfl, N55, KK54, f56, f57, f58, f59, f60, f61, f62, Fw51, f63, hy⟩
  ·
    have hy : ((x0, x1, x2, x3, (x4 ||| ((p1.toInt64) <<< (((16 : Int32) * (x5 % (4 : Int32))) &&& 0x3f).toInt64)), (x5 + (1 : Int32))) : SS) = own_add ((x0, x1, x2, x3, x4, x5) : SS) p1 := own_add0 (S := ((x0, x1, x2, x3, x4, x5) : SS)) (ch := p1) (U := (x0, x1, x2, x3, (x4 ||| ((p1.toInt64) <<< (((16 : Int32) * (x5 % (4 : Int32))) &&& 0x3f).toInt64)), (x5 + (1 : Int32)))) hz rfl
    have J64 : ∀ t, Steps p.tables e below (T25.setTop (mkF m 53 #[.val (.ref a1), .val (.int p1)] [])) t → Steps p.tables e below (s₁.setTop (entryFrame m #[(.ref a1), (.int p1)] 2)) t := fun t k => J27 t (by
        show Steps p.tables e below (T25.setTop (mkF m 37 #[.val (.ref a1), .val (.int p1)] [(.int ((x5 + (1 : Int32)) % (4 : Int32)))])) _
        refine XS.ifYes X25.here hx rfl (pc0 := 37) (pc' := 53) rfl (hb hby d5_37) rfl ((if0 _ _).trans (feq hz).2) (by decide) (by decide) ?_
        exact k)
    obtain ⟨fs, hr, hrun, hended, hW, hsame⟩ := X25.leave (v := none) (fun _ => rfl)
    have f65 := f18.wr W19
    have f66 := F_key0_a1.other W8 (Or.inr (slot_ne (Or.inr (hw _ (List.mem_of_getElem? (i := 11) rfl))) (Or.inl (hw _ (List.mem_of_getElem? (i := 32) rfl))) (by decide) (t := .long) (t' := .long) (by decide) (by decide)))
    have f67 := f66.other W19 (Or.inr (slot_ne (Or.inr (hw _ (List.mem_of_getElem? (i := 11) rfl))) (Or.inl (hw _ (List.mem_of_getElem? (i := 34) rfl))) (by decide) (t := .long) (t' := .int) (by decide) (by decide)))
    have f68 := F_key1_a1.other W8 (Or.inr (slot_ne (Or.inr (hw _ (List.mem_of_getElem? (i := 13) rfl))) (Or.inl (hw _ (List.mem_of_getElem? (i := 32) rfl))) (by decide) (t := .long) (t' := .long) (by decide) (by decide)))
    have f69 := f68.other W19 (Or.inr (slot_ne (Or.inr (hw _ (List.mem_of_getElem? (i := 13) rfl))) (Or.inl (hw _ (List.mem_of_getElem? (i := 34) rfl))) (by decide) (t := .long) (t' := .int) (by decide) (by decide)))
    have f70 := F_v0_a1.other W8 (Or.inr (slot_ne (Or.inl (hw _ (List.mem_of_getElem? (i := 21) rfl))) (Or.inl (hw _ (List.mem_of_getElem? (i := 32) rfl))) (by decide) (t := .long) (t' := .long) (by decide) (by decide)))
    have f71 := f70.other W19 (Or.inr (slot_ne (Or.inl (hw _ (List.mem_of_getElem? (i := 21) rfl))) (Or.inl (hw _ (List.mem_of_getElem? (i := 34) rfl))) (by decide) (t := .long) (t' := .int) (by decide) (by decide)))
    have f72 := F_v1_a1.other W8 (Or.inr (slot_ne (Or.inl (hw _ (List.mem_of_getElem? (i := 24) rfl))) (Or.inl (hw _ (List.mem_of_getElem? (i := 32) rfl))) (by decide) (t := .long) (t' := .long) (by decide) (by decide)))
    have f73 := f72.other W19 (Or.inr (slot_ne (Or.inl (hw _ (List.mem_of_getElem? (i := 24) rfl))) (Or.inl (hw _ (List.mem_of_getElem? (i := 34) rfl))) (by decide) (t := .long) (t' := .int) (by decide) (by decide)))
    have f74 := F_v2_a1.other W8 (Or.inr (slot_ne (Or.inl (hw _ (List.mem_of_getElem? (i := 27) rfl))) (Or.inl (hw _ (List.mem_of_getElem? (i := 32) rfl))) (by decide) (t := .long) (t' := .long) (by decide) (by decide)))
    have f75 := f74.other W19 (Or.inr (slot_ne (Or.inl (hw _ (List.mem_of_getElem? (i := 27) rfl))) (Or.inl (hw _ (List.mem_of_getElem? (i := 34) rfl))) (by decide) (t := .long) (t' := .int) (by decide) (by decide)))
    have f76 := F_v3_a1.other W8 (Or.inr (slot_ne (Or.inl (hw _ (List.mem_of_getElem? (i := 30) rfl))) (Or.inl (hw _ (List.mem_of_getElem? (i := 32) rfl))) (by decide) (t := .long) (t' := .long) (by decide) (by decide)))
    have f77 := f76.other W19 (Or.inr (slot_ne (Or.inl (hw _ (List.mem_of_getElem? (i := 30) rfl))) (Or.inl (hw _ (List.mem_of_getElem? (i := 34) rfl))) (by decide) (t := .long) (t' := .int) (by decide) (by decide)))
    have f78 := Fw8.other W19 (Or.inr (slot_ne (Or.inl (hw _ (List.mem_of_getElem? (i := 32) rfl))) (Or.inl (hw _ (List.mem_of_getElem? (i := 34) rfl))) (by decide) (t := .long) (t' := .int) (by decide) (by decide)))
    refine ⟨_, _, J64 _ ?_, hrun, hended, _, _, rfl, ?_, ⟨_, rfl⟩, hW, hsame.mono (by decide) (by decide)⟩
    · show Steps p.tables e below (T25.setTop (mkF m 53 #[.val (.ref a1), .val (.int p1)] [])) _
      exact X25.returnOut hx Bd.returns (hb hby d5_53) hr
    · show Q5 Z a1 p1 k0 k1 x0 x1 x2 x3 x4 x5 h0 n0 _ T25.heap _
      rw [e25]
      exact ⟨x0, x1, x2, x3, (x4 ||| ((p1.toInt64) <<< (((16 : Int32) * (x5 % (4 : Int32))) &&& 0x3f).toInt64)), (x5 + (1 : Int32)), rfl, N23, KK22, f65, f67, f69, f71, f73, f75, f77, f78, Fw19, hy⟩
theorem d6_0 : decode prog_76_method_4_code 0 = .ok (.aload_n 0, 1) := by decide +kernel
theorem d6_1 : decode prog_76_method_4_code 1 = .ok (.aload_n 0, 1) := by decide +kernel
theorem d6_2 : decode prog_76_method_4_code 2 = .ok (.getfield 42, 3) := by decide +kernel
theorem d6_5 : decode prog_76_method_4_code 5 = .ok (.aload_n 0, 1) := by decide +kernel
theorem d6_6 : decode prog_76_method_4_code 6 = .ok (.getfield 45, 3) := by decide +kernel
theorem d6_9 : decode prog_76_method_4_code 9 = .ok (.i2l, 1) := by decide +kernel
theorem d6_10 : decode prog_76_method_4_code 10 = .ok (.ldc2_w 53, 3) := by decide +kernel
theorem d6_13 : decode prog_76_method_4_code 13 = .ok (.lmul, 1) := by decide +kernel
theorem d6_14 : decode prog_76_method_4_code 14 = .ok (.bipush 56, 2) := by decide +kernel
theorem d6_16 : decode prog_76_method_4_code 16 = .ok (.lshl, 1) := by decide +kernel
theorem d6_17 : decode prog_76_method_4_code 17 = .ok (.lor, 1) := by decide +kernel
theorem d6_18 : decode prog_76_method_4_code 18 = .ok (.invokevirtual 49, 3) := by decide +kernel
theorem d6_21 : decode prog_76_method_4_code 21 = .ok (.aload_n 0, 1) := by decide +kernel
theorem d6_22 : decode prog_76_method_4_code 22 = .ok (.dup, 1) := by decide +kernel
theorem d6_23 : decode prog_76_method_4_code 23 = .ok (.getfield 34, 3) := by decide +kernel
theorem d6_26 : decode prog_76_method_4_code 26 = .ok (.ldc2_w 55, 3) := by decide +kernel
theorem d6_29 : decode prog_76_method_4_code 29 = .ok (.lxor, 1) := by decide +kernel
theorem d6_30 : decode prog_76_method_4_code 30 = .ok (.putfield 34, 3) := by decide +kernel
theorem d6_33 : decode prog_76_method_4_code 33 = .ok (.iconst 0, 1) := by decide +kernel
theorem d6_34 : decode prog_76_method_4_code 34 = .ok (.istore_n 1, 1) := by decide +kernel
theorem d6_35 : decode prog_76_method_4_code 35 = .ok (.iload_n 1, 1) := by decide +kernel
theorem d6_36 : decode prog_76_method_4_code 36 = .ok (.iconst 3, 1) := by decide +kernel
theorem d6_37 : decode prog_76_method_4_code 37 = .ok (.if_icmp .ge 13, 3) := by decide +kernel
theorem d6_40 : decode prog_76_method_4_code 40 = .ok (.aload_n 0, 1) := by decide +kernel
theorem d6_41 : decode prog_76_method_4_code 41 = .ok (.invokevirtual 57, 3) := by decide +kernel
theorem d6_44 : decode prog_76_method_4_code 44 = .ok (.iinc 1 1, 3) := by decide +kernel
theorem d6_47 : decode prog_76_method_4_code 47 = .ok (.goto (-12), 3) := by decide +kernel
theorem d6_50 : decode prog_76_method_4_code 50 = .ok (.aload_n 0, 1) := by decide +kernel
theorem d6_51 : decode prog_76_method_4_code 51 = .ok (.getfield 24, 3) := by decide +kernel
theorem d6_54 : decode prog_76_method_4_code 54 = .ok (.aload_n 0, 1) := by decide +kernel
theorem d6_55 : decode prog_76_method_4_code 55 = .ok (.getfield 29, 3) := by decide +kernel
theorem d6_58 : decode prog_76_method_4_code 58 = .ok (.lxor, 1) := by decide +kernel
theorem d6_59 : decode prog_76_method_4_code 59 = .ok (.aload_n 0, 1) := by decide +kernel
theorem d6_60 : decode prog_76_method_4_code 60 = .ok (.getfield 34, 3) := by decide +kernel
theorem d6_63 : decode prog_76_method_4_code 63 = .ok (.lxor, 1) := by decide +kernel
theorem d6_64 : decode prog_76_method_4_code 64 = .ok (.aload_n 0, 1) := by decide +kernel
theorem d6_65 : decode prog_76_method_4_code 65 = .ok (.getfield 39, 3) := by decide +kernel
theorem d6_68 : decode prog_76_method_4_code 68 = .ok (.lxor, 1) := by decide +kernel
theorem d6_69 : decode prog_76_method_4_code 69 = .ok (.lreturn, 1) := by decide +kernel
theorem pn_6 : plainName "com/example/tranche/tranche/io/SipHash" = true := by first | (simp [plainName, overriddenIn]; done) | decide +kernel
theorem ef_6_x (m : MethodId) (x0 : Addr) : entryFrame m #[(.ref x0)] 2 = mkF m 0 #[.val (.ref x0), .unset] [] := by first | (simp [entryFrame, mkF, argsToLocals, Value.category]; done) | rfl
def Q6 (Z : State) (a1 : Addr) (k0 : Int64) (k1 : Int64) (x0 : Int64) (x1 : Int64) (x2 : Int64) (x3 : Int64) (x4 : Int64) (x5 : Int32) (h0 : Heap) (n0 : Nat) (v : Option Value) (h : Heap) (L : List Loc) : Prop := ∃ (z0 : Int64) (z1 : Int64) (z2 : Int64) (z3 : Int64) (z4 : Int64) (z5 : Int32), v = some (.long (own_out ((z0, z1, z2, z3, z4, z5) : SS))) ∧ Fr n0 L ∧ Keep h0 h [a1] ∧ (Exa Z h a1 "com/example/tranche/tranche/io/SipHash") ∧ (Fld Z h a1 "com/example/tranche/tranche/io/SipHash" "key0" "J" (.long k0)) ∧ (Fld Z h a1 "com/example/tranche/tranche/io/SipHash" "key1" "J" (.long k1)) ∧ (Fld Z h a1 "com/example/tranche/tranche/io/SipHash" "v0" "J" (.long z0)) ∧ (Fld Z h a1 "com/example/tranche/tranche/io/SipHash" "v1" "J" (.long z1)) ∧ (Fld Z h a1 "com/example/tranche/tranche/io/SipHash" "v2" "J" (.long z2)) ∧ (Fld Z h a1 "com/example/tranche/tranche/io/SipHash" "v3" "J" (.long z3)) ∧ (Fld Z h a1 "com/example/tranche/tranche/io/SipHash" "word" "J" (.long z4)) ∧ (Fld Z h a1 "com/example/tranche/tranche/io/SipHash" "length" "I" (.int z5)) ∧ (((z0, z1, z2, z3, z4, z5) : SS) = own_end ((x0, x1, x2, x3, x4, x5) : SS))
set_option maxRecDepth 65536 in
set_option maxHeartbeats 40000000 in
theorem rm6 (l : Launch) (Z : State) (a0 : Array Value) (hw : ∀ d ∈ tables_1, d.before a0 Z = true) (ws : List Jvm.Cond) (a1 : Addr) (k0 : Int64) (k1 : Int64) (x0 : Int64) (x1 : Int64) (x2 : Int64) (x3 : Int64) (x4 : Int64) (x5 : Int32) (h0 : Heap) (n0 : Nat) (Z0 : n0 ≤ h0.size) (E_a1 : Exa Z h0 a1 "com/example/tranche/tranche/io/SipHash") (g_a1 : n0 ≤ a1) (F_key0_a1 : Fld Z h0 a1 "com/example/tranche/tranche/io/SipHash" "key0" "J" (.long k0)) (F_key1_a1 : Fld Z h0 a1 "com/example/tranche/tranche/io/SipHash" "key1" "J" (.long k1)) (F_v0_a1 : Fld Z h0 a1 "com/example/tranche/tranche/io/SipHash" "v0" "J" (.long x0)) (F_v1_a1 : Fld Z h0 a1 "com/example/tranche/tranche/io/SipHash" "v1" "J" (.long x1)) (F_v2_a1 : Fld Z h0 a1 "com/example/tranche/tranche/io/SipHash" "v2" "J" (.long x2)) (F_v3_a1 : Fld Z h0 a1 "com/example/tranche/tranche/io/SipHash" "v3" "J" (.long x3)) (F_word_a1 : Fld Z h0 a1 "com/example/tranche/tranche/io/SipHash" "word" "J" (.long x4)) (F_length_a1 : Fld Z h0 a1 "com/example/tranche/tranche/io/SipHash" "length" "I" (.int x5)) :
    MetFree l (⟨"com/example/tranche/tranche/io/SipHash", "finish", "()J"⟩ : MethodName) (head1 (Jvm.Cond.code (⟨"com/example/tranche/tranche/io/SipHash", "finish", "()J"⟩ : MethodName) prog_76_method_4_code 2 (some .long) :: ws) ({ frames := 3, cells := 0, slots := 0, locals := 42 } : Room)) (fun a U => a = #[(.ref a1)] ∧ Z.Warmed39 U.vm ∧ U.heap = h0) (fun _ _ _ _ _ => True) (fun _ U o U' => ∃ v L, o = .returned v ∧ Q6 Z a1 k0 k1 x0 x1 x2 x3 x4 x5 h0 n0 v U'.heap L ∧ FrameEnd U o U' L ({ frames := 3, cells := 0, slots := 0, locals := 42 } : Room).cells ({ frames := 3, cells := 0, slots := 0, locals := 42 } : Room).slots) := by
  refine MetFree.of_bodySF (plainFor_of_name pn_6) hisR ?_
  intro p e s m args below meth c s₁ Bd hml0 hP hK
  obtain ⟨rfl, hZ, hh⟩ := hP
  have hx := Bd.exec
  have hby := Bd.bytes
  have hml : c.maxLocals = 2 := hml0
  have hown : s.vm.findClass "com/example/tranche/tranche/io/SipHash" = some m.cls := findClass_of_methodNamed Bd.named
  have hnm := (name_of_methodNamed Bd.named Bd.method).1
  have X0 : Stand p l e ({ frames := 3, cells := 0, slots := 0, locals := 42 } : Room) s m #[(.ref a1)] below meth c s₁ [] 0 0 := Stand.of_body Bd
  have e0 : s₁.heap = h0 := by rw [← hh, Bd.state]; rfl
  have N0 := Fr.nil n0
  have pre0 : ∀ t, Steps p.tables e below (s₁.setTop (mkF m 0 #[.val (.ref a1), .unset] [])) t → Steps p.tables e below (s₁.setTop (entryFrame m #[(.ref a1)] 2)) t := fun t k => castTop (ef_6_x m a1) k
  have J1 : ∀ t, Steps p.tables e below (s₁.setTop (mkF m 2 #[.val (.ref a1), .unset] [(.ref a1), (.ref a1)])) t → Steps p.tables e below (s₁.setTop (entryFrame m #[(.ref a1)] 2)) t := fun t k => pre0 t (by
      show Steps p.tables e below (s₁.setTop (mkF m 0 #[.val (.ref a1), .unset] [])) _
      refine XS.aloadN X0.here hx rfl (hb hby d6_0) rfl rfl ?_
      show Steps p.tables e below (s₁.setTop (mkF m 1 #[.val (.ref a1), .unset] [(.ref a1)])) _
      refine XS.aloadN X0.here hx rfl (hb hby d6_1) rfl rfl ?_
      exact k)
  obtain ⟨T2, X2, e2, st2⟩ := getF X0 hx hZ hown (host := "") (Or.inl (hw _ (List.mem_of_getElem? (i := 31) rfl))) Via.refl e0 F_word_a1 (g := (mkF m 2 #[.val (.ref a1), .unset] [(.ref a1), (.ref a1)])) rfl rfl (hb hby d6_2)
  have J3 : ∀ t, Steps p.tables e below (T2.setTop (mkF m 5 #[.val (.ref a1), .unset] [(.long x4), (.ref a1)])) t → Steps p.tables e below (s₁.setTop (entryFrame m #[(.ref a1)] 2)) t := fun t k => J1 t (st2 t k)
  have J4 : ∀ t, Steps p.tables e below (T2.setTop (mkF m 6 #[.val (.ref a1), .unset] [(.ref a1), (.long x4), (.ref a1)])) t → Steps p.tables e below (s₁.setTop (entryFrame m #[(.ref a1)] 2)) t := fun t k => J3 t (by
      show Steps p.tables e below (T2.setTop (mkF m 5 #[.val (.ref a1), .unset] [(.long x4), (.ref a1)])) _
      refine XS.aloadN X2.here hx rfl (hb hby d6_5) rfl rfl ?_
      exact k)
  obtain ⟨T5, X5, e5, st5⟩ := getF X2 hx hZ hown (host := "") (Or.inl (hw _ (List.mem_of_getElem? (i := 33) rfl))) Via.refl e2 F_length_a1 (g := (mkF m 6 #[.val (.ref a1), .unset] [(.ref a1), (.long x4), (.ref a1)])) rfl rfl (hb hby d6_6)
  have J6 : ∀ t, Steps p.tables e below (T5.setTop (mkF m 9 #[.val (.ref a1), .unset] [(.int x5), (.long x4), (.ref a1)])) t → Steps p.tables e below (s₁.setTop (entryFrame m #[(.ref a1)] 2)) t := fun t k => J4 t (st5 t k)
  have J7 : ∀ t, Steps p.tables e below (T5.setTop (mkF m 18 #[.val (.ref a1), .unset] [(.long (x4 ||| (((x5.toInt64) * (2 : Int64)) <<< ((56 : Int32) &&& 0x3f).toInt64))), (.ref a1)])) t → Steps p.tables e below (s₁.setTop (entryFrame m #[(.ref a1)] 2)) t := fun t k => J6 t (by
      show Steps p.tables e below (T5.setTop (mkF m 9 #[.val (.ref a1), .unset] [(.int x5), (.long x4), (.ref a1)])) _
      refine XS.i2l X5.here hx rfl (hb hby d6_9) rfl ?_
      show Steps p.tables e below (T5.setTop (mkF m 10 #[.val (.ref a1), .unset] [(.long (x5.toInt64)), (.long x4), (.ref a1)])) _
      refine X5.ldc2Long hx hown (mvT hZ (hw _ (List.mem_of_getElem? (i := 49) rfl))) (g := (mkF m 10 #[.val (.ref a1), .unset] [(.long (x5.toInt64)), (.long x4), (.ref a1)])) rfl (hb hby d6_10) _ ?_
      show Steps p.tables e below (T5.setTop (mkF m 13 #[.val (.ref a1), .unset] [(.long (2 : Int64)), (.long (x5.toInt64)), (.long x4), (.ref a1)])) _
      refine XS.lmul X5.here hx rfl (hb hby d6_13) rfl ?_
      show Steps p.tables e below (T5.setTop (mkF m 14 #[.val (.ref a1), .unset] [(.long ((x5.toInt64) * (2 : Int64))), (.long x4), (.ref a1)])) _
      refine XS.bipush X5.here hx rfl (hb hby d6_14) ?_
      show Steps p.tables e below (T5.setTop (mkF m 16 #[.val (.ref a1), .unset] [(.int (56 : Int32)), (.long ((x5.toInt64) * (2 : Int64))), (.long x4), (.ref a1)])) _
      refine XS.lshl X5.here hx rfl (hb hby d6_16) rfl ?_
      show Steps p.tables e below (T5.setTop (mkF m 17 #[.val (.ref a1), .unset] [(.long (((x5.toInt64) * (2 : Int64)) <<< ((56 : Int32) &&& 0x3f).toInt64)), (.long x4), (.ref a1)])) _
      refine XS.lor X5.here hx rfl (hb hby d6_17) rfl ?_
      exact k)
  obtain ⟨cq8, q8, q8'⟩ := E_a1.cell
  obtain ⟨_, _, ⟨T8, L8, k8, n8⟩, -, X8, ⟨Lc8, hQ8, l8, y8, z8⟩, st8⟩ := X5.privateBack hx (y := (⟨"com/example/tranche/tranche/io/SipHash", "compress", "(J)V"⟩ : MethodName)) hown (mvT hZ (hw _ (List.mem_of_getElem? (i := 50) rfl))) (mvT hZ (hw _ (List.mem_of_getElem? (i := 51) rfl))) (own_selp (mvT hZ (hw _ (List.mem_of_getElem? (i := 2) rfl))) (Cond.privateMethod_at (mvP hZ (hw _ (List.mem_of_getElem? (i := 52) rfl)) (args := #[]))) (mvT hZ (hw _ (List.mem_of_getElem? (i := 51) rfl))) (by decide)) (Cond.privateMethod_at (mvP hZ (hw _ (List.mem_of_getElem? (i := 52) rfl)) (args := #[]))) (mvT hZ (hw _ (List.mem_of_getElem? (i := 53) rfl))) (by decide) (backOf (W := 0) (rm7 l Z a0 hw [] a1 (x4 ||| (((x5.toInt64) * (2 : Int64)) <<< ((56 : Int32) &&& 0x3f).toInt64)) k0 k1 x0 x1 x2 x3 x4 x5 h0 n0 Z0 E_a1 g_a1 F_key0_a1 F_key1_a1 F_v0_a1 F_v1_a1 F_v2_a1 F_v3_a1 F_word_a1 F_length_a1) hZ (hw _ (List.mem_of_getElem? (i := 53) rfl)) (hw _ (List.mem_of_getElem? (i := 3) rfl)) (by decide) (by decide)) (g := (mkF m 18 #[.val (.ref a1), .unset] [(.long (x4 ||| (((x5.toInt64) * (2 : Int64)) <<< ((56 : Int32) &&& 0x3f).toInt64))), (.ref a1)])) rfl (by rw [hml]; rfl) (Steps.refl _) (a := a1) (by rw [e5]; exact q8) q8' (argsL := [(.long (x4 ||| (((x5.toInt64) * (2 : Int64)) <<< ((56 : Int32) &&& 0x3f).toInt64)))]) (rest := []) (lenOf pd_2 rfl) rfl (by show 2 * 0 + _ ≤ _; exact Nat.le_of_eq rfl) (hb hby d6_18) (fun _ _ => ⟨rfl, e5, (by decide : 0 + 0 ≤ _), (by decide : 0 + 0 ≤ _)⟩)
  dsimp only [Pt.U, Pt.locs, Pt.cells, Pt.slots] at X8 l8 y8 z8 st8 hQ8
  subst l8 y8 z8
  obtain ⟨z0_8, z1_8, z2_8, z3_8, z4_8, z5_8, rfl, Nq8, K8, p8_1, p8_2, p8_3, p8_4, p8_5, p8_6, p8_7, p8_8, p8_9, p8_10⟩ := hQ8
  have N9 := Fr.app N0 Nq8
  have J10 : ∀ t, Steps p.tables e below (T8.setTop (mkF m 21 #[.val (.ref a1), .unset] [])) t → Steps p.tables e below (s₁.setTop (entryFrame m #[(.ref a1)] 2)) t := fun t k => J7 t (st8.trans k)
  have Z11 : n0 ≤ T8.heap.size := Nat.le_trans Z0 K8.1
  have KK12 : Keep h0 T8.heap [a1] := (Keep.refl h0 [a1]).trans K8 (allS (Or.inl (List.mem_of_getElem? (i := 0) rfl)) all0)
  have J13 : ∀ t, Steps p.tables e below (T8.setTop (mkF m 23 #[.val (.ref a1), .unset] [(.ref a1), (.ref a1)])) t → Steps p.tables e below (s₁.setTop (entryFrame m #[(.ref a1)] 2)) t := fun t k => J10 t (by
      show Steps p.tables e below (T8.setTop (mkF m 21 #[.val (.ref a1), .unset] [])) _
      refine XS.aloadN X8.here hx rfl (hb hby d6_21) rfl rfl ?_
      show Steps p.tables e below (T8.setTop (mkF m 22 #[.val (.ref a1), .unset] [(.ref a1)])) _
      refine XS.dup X8.here hx rfl (hb hby d6_22) rfl rfl ?_
      exact k)
  obtain ⟨T14, X14, e14, st14⟩ := getF X8 hx hZ hown (host := "") (Or.inl (hw _ (List.mem_of_getElem? (i := 26) rfl))) Via.refl rfl p8_6 (g := (mkF m 23 #[.val (.ref a1), .unset] [(.ref a1), (.ref a1)])) rfl rfl (hb hby d6_23)
  have J15 : ∀ t, Steps p.tables e below (T14.setTop (mkF m 26 #[.val (.ref a1), .unset] [(.long z2_8), (.ref a1)])) t → Steps p.tables e below (s₁.setTop (entryFrame m #[(.ref a1)] 2)) t := fun t k => J13 t (st14 t k)
  have J16 : ∀ t, Steps p.tables e below (T14.setTop (mkF m 30 #[.val (.ref a1), .unset] [(.long (z2_8 ^^^ (255 : Int64))), (.ref a1)])) t → Steps p.tables e below (s₁.setTop (entryFrame m #[(.ref a1)] 2)) t := fun t k => J15 t (by
      show Steps p.tables e below (T14.setTop (mkF m 26 #[.val (.ref a1), .unset] [(.long z2_8), (.ref a1)])) _
      refine X14.ldc2Long hx hown (mvT hZ (hw _ (List.mem_of_getElem? (i := 62) rfl))) (g := (mkF m 26 #[.val (.ref a1), .unset] [(.long z2_8), (.ref a1)])) rfl (hb hby d6_26) _ ?_
      show Steps p.tables e below (T14.setTop (mkF m 29 #[.val (.ref a1), .unset] [(.long (255 : Int64)), (.long z2_8), (.ref a1)])) _
      refine XS.lxor X14.here hx rfl (hb hby d6_29) rfl ?_
      exact k)
  obtain ⟨T17, h17, X17, e17, W17, st17⟩ := putF X14 hx hZ hown (host := "") (Or.inl (hw _ (List.mem_of_getElem? (i := 26) rfl))) Via.refl e14 p8_6 p8_1 (Or.inl (hw _ (List.mem_of_getElem? (i := 27) rfl))) (hw _ (List.mem_of_getElem? (i := 2) rfl)) (ty := .long) (by decide) rfl rfl (g := (mkF m 30 #[.val (.ref a1), .unset] [(.long (z2_8 ^^^ (255 : Int64))), (.ref a1)])) rfl rfl (hb hby d6_30)
  have J18 : ∀ t, Steps p.tables e below (T17.setTop (mkF m 33 #[.val (.ref a1), .unset] [])) t → Steps p.tables e below (s₁.setTop (entryFrame m #[(.ref a1)] 2)) t := fun t k => J16 t (st17 t k)
  have Z19 : n0 ≤ h17.size := Nat.le_trans Z11 (Keep.of_wr W17).1
  have KK20 : Keep h0 h17 [a1] := KK12.wr W17 (Or.inl (List.mem_of_getElem? (i := 0) rfl))
  have N21 := Fr.snoc X17 N9 g_a1
  have Fw17 := p8_6.same W17
  have J22 : ∀ t, Steps p.tables e below (T17.setTop (mkF m 41 #[.val (.ref a1), .val (.int (0 : Int32))] [(.ref a1)])) t → Steps p.tables e below (s₁.setTop (entryFrame m #[(.ref a1)] 2)) t := fun t k => J18 t (by
      show Steps p.tables e below (T17.setTop (mkF m 33 #[.val (.ref a1), .unset] [])) _
      refine XS.iconst X17.here hx rfl (hb hby d6_33) ?_
      show Steps p.tables e below (T17.setTop (mkF m 34 #[.val (.ref a1), .unset] [(.int (0 : Int32))])) _
      refine XS.istoreN X17.here hx rfl (hb hby d6_34) rfl (l' := #[.val (.ref a1), .val (.int (0 : Int32))]) rfl ?_
      show Steps p.tables e below (T17.setTop (mkF m 35 #[.val (.ref a1), .val (.int (0 : Int32))] [])) _
      refine XS.iloadN X17.here hx rfl (hb hby d6_35) rfl ?_
      show Steps p.tables e below (T17.setTop (mkF m 36 #[.val (.ref a1), .val (.int (0 : Int32))] [(.int (0 : Int32))])) _
      refine XS.iconst X17.here hx rfl (hb hby d6_36) ?_
      show Steps p.tables e below (T17.setTop (mkF m 37 #[.val (.ref a1), .val (.int (0 : Int32))] [(.int (3 : Int32)), (.int (0 : Int32))])) _
      refine XS.icmpNo X17.here hx rfl (hb hby d6_37) rfl (tlt (by decide)).2.1 ?_
      show Steps p.tables e below (T17.setTop (mkF m 40 #[.val (.ref a1), .val (.int (0 : Int32))] [])) _
      refine XS.aloadN X17.here hx rfl (hb hby d6_40) rfl rfl ?_
      exact k)
  have f23 := p8_1.wr W17
  have f24 := p8_2.other W17 (Or.inr (slot_ne (Or.inr (hw _ (List.mem_of_getElem? (i := 11) rfl))) (Or.inl (hw _ (List.mem_of_getElem? (i := 27) rfl))) (by decide) (t := .long) (t' := .long) (by decide) (by decide)))
  have f25 := p8_3.other W17 (Or.inr (slot_ne (Or.inr (hw _ (List.mem_of_getElem? (i := 13) rfl))) (Or.inl (hw _ (List.mem_of_getElem? (i := 27) rfl))) (by decide) (t := .long) (t' := .long) (by decide) (by decide)))
  have f26 := p8_4.other W17 (Or.inr (slot_ne (Or.inl (hw _ (List.mem_of_getElem? (i := 21) rfl))) (Or.inl (hw _ (List.mem_of_getElem? (i := 27) rfl))) (by decide) (t := .long) (t' := .long) (by decide) (by decide)))
  have f27 := p8_5.other W17 (Or.inr (slot_ne (Or.inl (hw _ (List.mem_of_getElem? (i := 24) rfl))) (Or.inl (hw _ (List.mem_of_getElem? (i := 27) rfl))) (by decide) (t := .long) (t' := .long) (by decide) (by decide)))
  have f28 := p8_7.other W17 (Or.inr (slot_ne (Or.inl (hw _ (List.mem_of_getElem? (i := 30) rfl))) (Or.inl (hw _ (List.mem_of_getElem? (i := 27) rfl))) (by decide) (t := .long) (t' := .long) (by decide) (by decide)))
  have f29 := p8_8.other W17 (Or.inr (slot_ne (Or.inl (hw _ (List.mem_of_getElem? (i := 32) rfl))) (Or.inl (hw _ (List.mem_of_getElem? (i := 27) rfl))) (by decide) (t := .long) (t' := .long) (by decide) (by decide)))
  have f30 := p8_9.other W17 (Or.inr (slot_ne (Or.inl (hw _ (List.mem_of_getElem? (i := 34) rfl))) (Or.inl (hw _ (List.mem_of_getElem? (i := 27) rfl))) (by decide) (t := .int) (t' := .long) (by decide) (by decide)))
  obtain ⟨cq31, q31, q31'⟩ := f23.cell
  obtain ⟨_, _, ⟨T31, L31, k31, n31⟩, -, X31, ⟨Lc31, hQ31, l31, y31, z31⟩, st31⟩ := X17.privateBack hx (y := (⟨"com/example/tranche/tranche/io/SipHash", "round", "()V"⟩ : MethodName)) hown (mvT hZ (hw _ (List.mem_of_getElem? (i := 54) rfl))) (mvT hZ (hw _ (List.mem_of_getElem? (i := 55) rfl))) (own_selp (mvT hZ (hw _ (List.mem_of_getElem? (i := 2) rfl))) (Cond.privateMethod_at (mvP hZ (hw _ (List.mem_of_getElem? (i := 56) rfl)) (args := #[]))) (mvT hZ (hw _ (List.mem_of_getElem? (i := 55) rfl))) (by decide)) (Cond.privateMethod_at (mvP hZ (hw _ (List.mem_of_getElem? (i := 56) rfl)) (args := #[]))) (mvT hZ (hw _ (List.mem_of_getElem? (i := 57) rfl))) (by decide) (backOf (W := 0) (rm8 l Z a0 hw [] a1 k0 k1 z0_8 z1_8 (z2_8 ^^^ (255 : Int64)) z3_8 z4_8 z5_8 h17 n0 Z19 f23 g_a1 f24 f25 f26 f27 Fw17 f28 f29 f30) hZ (hw _ (List.mem_of_getElem? (i := 57) rfl)) (hw _ (List.mem_of_getElem? (i := 3) rfl)) (by decide) (by decide)) (g := (mkF m 41 #[.val (.ref a1), .val (.int (0 : Int32))] [(.ref a1)])) rfl (by rw [hml]; rfl) (Steps.refl _) (a := a1) (by rw [e17]; exact q31) q31' (argsL := []) (rest := []) (lenOf pd_1 rfl) rfl (by show 2 * 0 + _ ≤ _; exact Nat.le_of_eq rfl) (hb hby d6_41) (fun _ _ => ⟨rfl, e17, (by decide : 0 + 0 ≤ _), (by decide : 0 + 0 ≤ _)⟩)
  dsimp only [Pt.U, Pt.locs, Pt.cells, Pt.slots] at X31 l31 y31 z31 st31 hQ31
  subst l31 y31 z31
  obtain ⟨z0_31, z1_31, z2_31, z3_31, z4_31, z5_31, rfl, Nq31, K31, p31_1, p31_2, p31_3, p31_4, p31_5, p31_6, p31_7, p31_8, p31_9, p31_10⟩ := hQ31
  have N32 := Fr.app N21 Nq31
  have J33 : ∀ t, Steps p.tables e below (T31.setTop (mkF m 44 #[.val (.ref a1), .val (.int (0 : Int32))] [])) t → Steps p.tables e below (s₁.setTop (entryFrame m #[(.ref a1)] 2)) t := fun t k => J22 t (st31.trans k)
  have Z34 : n0 ≤ T31.heap.size := Nat.le_trans Z19 K31.1
  have KK35 : Keep h0 T31.heap [a1] := KK20.trans K31 (allS (Or.inl (List.mem_of_getElem? (i := 0) rfl)) all0)
  have J36 : ∀ t, Steps p.tables e below (T31.setTop (mkF m 41 #[.val (.ref a1), .val (.int ((0 : Int32) + (1 : Int32)))] [(.ref a1)])) t → Steps p.tables e below (s₁.setTop (entryFrame m #[(.ref a1)] 2)) t := fun t k => J33 t (by
      show Steps p.tables e below (T31.setTop (mkF m 44 #[.val (.ref a1), .val (.int (0 : Int32))] [])) _
      refine XS.iinc X31.here hx rfl (hb hby d6_44) rfl (l' := #[.val (.ref a1), .val (.int ((0 : Int32) + (1 : Int32)))]) rfl ?_
      show Steps p.tables e below (T31.setTop (mkF m 47 #[.val (.ref a1), .val (.int ((0 : Int32) + (1 : Int32)))] [])) _
      refine XS.goto X31.here hx rfl (pc0 := 47) (pc' := 35) rfl (hb hby d6_47) (by decide) (by decide) ?_
      show Steps p.tables e below (T31.setTop (mkF m 35 #[.val (.ref a1), .val (.int ((0 : Int32) + (1 : Int32)))] [])) _
      refine XS.iloadN X31.here hx rfl (hb hby d6_35) rfl ?_
      show Steps p.tables e below (T31.setTop (mkF m 36 #[.val (.ref a1), .val (.int ((0 : Int32) + (1 : Int32)))] [(.int ((0 : Int32) + (1 : Int32)))])) _
      refine XS.iconst X31.here hx rfl (hb hby d6_36) ?_
      show Steps p.tables e below (T31.setTop (mkF m 37 #[.val (.ref a1), .val (.int ((0 : Int32) + (1 : Int32)))] [(.int (3 : Int32)), (.int ((0 : Int32) + (1 : Int32)))])) _
      refine XS.icmpNo X31.here hx rfl (hb hby d6_37) rfl (tlt (by decide)).2.1 ?_
      show Steps p.tables e below (T31.setTop (mkF m 40 #[.val (.ref a1), .val (.int ((0 : Int32) + (1 : Int32)))] [])) _
      refine XS.aloadN X31.here hx rfl (hb hby d6_40) rfl rfl ?_
      exact k)
  obtain ⟨cq37, q37, q37'⟩ := p31_1.cell
  obtain ⟨_, _, ⟨T37, L37, k37, n37⟩, -, X37, ⟨Lc37, hQ37, l37, y37, z37⟩, st37⟩ := X31.privateBack hx (y := (⟨"com/example/tranche/tranche/io/SipHash", "round", "()V"⟩ : MethodName)) hown (mvT hZ (hw _ (List.mem_of_getElem? (i := 54) rfl))) (mvT hZ (hw _ (List.mem_of_getElem? (i := 55) rfl))) (own_selp (mvT hZ (hw _ (List.mem_of_getElem? (i := 2) rfl))) (Cond.privateMethod_at (mvP hZ (hw _ (List.mem_of_getElem? (i := 56) rfl)) (args := #[]))) (mvT hZ (hw _ (List.mem_of_getElem? (i := 55) rfl))) (by decide)) (Cond.privateMethod_at (mvP hZ (hw _ (List.mem_of_getElem? (i := 56) rfl)) (args := #[]))) (mvT hZ (hw _ (List.mem_of_getElem? (i := 57) rfl))) (by decide) (backOf (W := 0) (rm8 l Z a0 hw [] a1 k0 k1 z0_31 z1_31 z2_31 z3_31 z4_31 z5_31 T31.heap n0 Z34 p31_1 g_a1 p31_2 p31_3 p31_4 p31_5 p31_6 p31_7 p31_8 p31_9) hZ (hw _ (List.mem_of_getElem? (i := 57) rfl)) (hw _ (List.mem_of_getElem? (i := 3) rfl)) (by decide) (by decide)) (g := (mkF m 41 #[.val (.ref a1), .val (.int ((0 : Int32) + (1 : Int32)))] [(.ref a1)])) rfl (by rw [hml]; rfl) (Steps.refl _) (a := a1) q37 q37' (argsL := []) (rest := []) (lenOf pd_1 rfl) rfl (by show 2 * 0 + _ ≤ _; exact Nat.le_of_eq rfl) (hb hby d6_41) (fun _ _ => ⟨rfl, rfl, (by decide : 0 + 0 ≤ _), (by decide : 0 + 0 ≤ _)⟩)
  dsimp only [Pt.U, Pt.locs, Pt.cells, Pt.slots] at X37 l37 y37 z37 st37 hQ37
  subst l37 y37 z37
  obtain ⟨z0_37, z1_37, z2_37, z3_37, z4_37, z5_37, rfl, Nq37, K37, p37_1, p37_2, p37_3, p37_4, p37_5, p37_6, p37_7, p37_8, p37_9, p37_10⟩ := hQ37
  have N38 := Fr.app N32 Nq37
  have J39 : ∀ t, Steps p.tables e below (T37.setTop (mkF m 44 #[.val (.ref a1), .val (.int ((0 : Int32) + (1 : Int32)))] [])) t → Steps p.tables e below (s₁.setTop (entryFrame m #[(.ref a1)] 2)) t := fun t k => J36 t (st37.trans k)
  have Z40 : n0 ≤ T37.heap.size := Nat.le_trans Z34 K37.1
  have KK41 : Keep h0 T37.heap [a1] := KK35.trans K37 (allS (Or.inl (List.mem_of_getElem? (i := 0) rfl)) all0)
  have J42 : ∀ t, Steps p.tables e below (T37.setTop (mkF m 41 #[.val (.ref a1), .val (.int (((0 : Int32) + (1 : Int32)) + (1 : Int32)))] [(.ref a1)])) t → Steps p.tables e below (s₁.setTop (entryFrame m #[(.ref a1)] 2)) t := fun t k => J39 t (by
      show Steps p.tables e below (T37.setTop (mkF m 44 #[.val (.ref a1), .val (.int ((0 : Int32) + (1 : Int32)))] [])) _
      refine XS.iinc X37.here hx rfl (hb hby d6_44) rfl (l' := #[.val (.ref a1), .val (.int (((0 : Int32) + (1 : Int32)) + (1 : Int32)))]) rfl ?_
      show Steps p.tables e below (T37.setTop (mkF m 47 #[.val (.ref a1), .val (.int (((0 : Int32) + (1 : Int32)) + (1 : Int32)))] [])) _
      refine XS.goto X37.here hx rfl (pc0 := 47) (pc' := 35) rfl (hb hby d6_47) (by decide) (by decide) ?_
      show Steps p.tables e below (T37.setTop (mkF m 35 #[.val (.ref a1), .val (.int (((0 : Int32) + (1 : Int32)) + (1 : Int32)))] [])) _
      refine XS.iloadN X37.here hx rfl (hb hby d6_35) rfl ?_
      show Steps p.tables e below (T37.setTop (mkF m 36 #[.val (.ref a1), .val (.int (((0 : Int32) + (1 : Int32)) + (1 : Int32)))] [(.int (((0 : Int32) + (1 : Int32)) + (1 : Int32)))])) _
      refine XS.iconst X37.here hx rfl (hb hby d6_36) ?_
      show Steps p.tables e below (T37.setTop (mkF m 37 #[.val (.ref a1), .val (.int (((0 : Int32) + (1 : Int32)) + (1 : Int32)))] [(.int (3 : Int32)), (.int (((0 : Int32) + (1 : Int32)) + (1 : Int32)))])) _
      refine XS.icmpNo X37.here hx rfl (hb hby d6_37) rfl (tlt (by decide)).2.1 ?_
      show Steps p.tables e below (T37.setTop (mkF m 40 #[.val (.ref a1), .val (.int (((0 : Int32) + (1 : Int32)) + (1 : Int32)))] [])) _
      refine XS.aloadN X37.here hx rfl (hb hby d6_40) rfl rfl ?_
      exact k)
  obtain ⟨cq43, q43, q43'⟩ := p37_1.cell
  obtain ⟨_, _, ⟨T43, L43, k43, n43⟩, -, X43, ⟨Lc43, hQ43, l43, y43, z43⟩, st43⟩ := X37.privateBack hx (y := (⟨"com/example/tranche/tranche/io/SipHash", "round", "()V"⟩ : MethodName)) hown (mvT hZ (hw _ (List.mem_of_getElem? (i := 54) rfl))) (mvT hZ (hw _ (List.mem_of_getElem? (i := 55) rfl))) (own_selp (mvT hZ (hw _ (List.mem_of_getElem? (i := 2) rfl))) (Cond.privateMethod_at (mvP hZ (hw _ (List.mem_of_getElem? (i := 56) rfl)) (args := #[]))) (mvT hZ (hw _ (List.mem_of_getElem? (i := 55) rfl))) (by decide)) (Cond.privateMethod_at (mvP hZ (hw _ (List.mem_of_getElem? (i := 56) rfl)) (args := #[]))) (mvT hZ (hw _ (List.mem_of_getElem? (i := 57) rfl))) (by decide) (backOf (W := 0) (rm8 l Z a0 hw [] a1 k0 k1 z0_37 z1_37 z2_37 z3_37 z4_37 z5_37 T37.heap n0 Z40 p37_1 g_a1 p37_2 p37_3 p37_4 p37_5 p37_6 p37_7 p37_8 p37_9) hZ (hw _ (List.mem_of_getElem? (i := 57) rfl)) (hw _ (List.mem_of_getElem? (i := 3) rfl)) (by decide) (by decide)) (g := (mkF m 41 #[.val (.ref a1), .val (.int (((0 : Int32) + (1 : Int32)) + (1 : Int32)))] [(.ref a1)])) rfl (by rw [hml]; rfl) (Steps.refl _) (a := a1) q43 q43' (argsL := []) (rest := []) (lenOf pd_1 rfl) rfl (by show 2 * 0 + _ ≤ _; exact Nat.le_of_eq rfl) (hb hby d6_41) (fun _ _ => ⟨rfl, rfl, (by decide : 0 + 0 ≤ _), (by decide : 0 + 0 ≤ _)⟩)
  dsimp only [Pt.U, Pt.locs, Pt.cells, Pt.slots] at X43 l43 y43 z43 st43 hQ43
  subst l43 y43 z43
  obtain ⟨z0_43, z1_43, z2_43, z3_43, z4_43, z5_43, rfl, Nq43, K43, p43_1, p43_2, p43_3, p43_4, p43_5, p43_6, p43_7, p43_8, p43_9, p43_10⟩ := hQ43
  have N44 := Fr.app N38 Nq43
  have J45 : ∀ t, Steps p.tables e below (T43.setTop (mkF m 44 #[.val (.ref a1), .val (.int (((0 : Int32) + (1 : Int32)) + (1 : Int32)))] [])) t → Steps p.tables e below (s₁.setTop (entryFrame m #[(.ref a1)] 2)) t := fun t k => J42 t (st43.trans k)
  have Z46 : n0 ≤ T43.heap.size := Nat.le_trans Z40 K43.1
  have KK47 : Keep h0 T43.heap [a1] := KK41.trans K43 (allS (Or.inl (List.mem_of_getElem? (i := 0) rfl)) all0)
  have J48 : ∀ t, Steps p.tables e below (T43.setTop (mkF m 51 #[.val (.ref a1), .val (.int ((((0 : Int32) + (1 : Int32)) + (1 : Int32)) + (1 : Int32)))] [(.ref a1)])) t → Steps p.tables e below (s₁.setTop (entryFrame m #[(.ref a1)] 2)) t := fun t k => J45 t (by
      show Steps p.tables e below (T43.setTop (mkF m 44 #[.val (.ref a1), .val (.int (((0 : Int32) + (1 : Int32)) + (1 : Int32)))] [])) _
      refine XS.iinc X43.here hx rfl (hb hby d6_44) rfl (l' := #[.val (.ref a1), .val (.int ((((0 : Int32) + (1 : Int32)) + (1 : Int32)) + (1 : Int32)))]) rfl ?_
      show Steps p.tables e below (T43.setTop (mkF m 47 #[.val (.ref a1), .val (.int ((((0 : Int32) + (1 : Int32)) + (1 : Int32)) + (1 : Int32)))] [])) _
      refine XS.goto X43.here hx rfl (pc0 := 47) (pc' := 35) rfl (hb hby d6_47) (by decide) (by decide) ?_
      show Steps p.tables e below (T43.setTop (mkF m 35 #[.val (.ref a1), .val (.int ((((0 : Int32) + (1 : Int32)) + (1 : Int32)) + (1 : Int32)))] [])) _
      refine XS.iloadN X43.here hx rfl (hb hby d6_35) rfl ?_
      show Steps p.tables e below (T43.setTop (mkF m 36 #[.val (.ref a1), .val (.int ((((0 : Int32) + (1 : Int32)) + (1 : Int32)) + (1 : Int32)))] [(.int ((((0 : Int32) + (1 : Int32)) + (1 : Int32)) + (1 : Int32)))])) _
      refine XS.iconst X43.here hx rfl (hb hby d6_36) ?_
      show Steps p.tables e below (T43.setTop (mkF m 37 #[.val (.ref a1), .val (.int ((((0 : Int32) + (1 : Int32)) + (1 : Int32)) + (1 : Int32)))] [(.int (3 : Int32)), (.int ((((0 : Int32) + (1 : Int32)) + (1 : Int32)) + (1 : Int32)))])) _
      refine XS.icmpYes X43.here hx rfl (pc0 := 37) (pc' := 50) rfl (hb hby d6_37) rfl (flt (by decide)).2.1 (by decide) (by decide) ?_
      show Steps p.tables e below (T43.setTop (mkF m 50 #[.val (.ref a1), .val (.int ((((0 : Int32) + (1 : Int32)) + (1 : Int32)) + (1 : Int32)))] [])) _
      refine XS.aloadN X43.here hx rfl (hb hby d6_50) rfl rfl ?_
      exact k)
  obtain ⟨T49, X49, e49, st49⟩ := getF X43 hx hZ hown (host := "") (Or.inl (hw _ (List.mem_of_getElem? (i := 20) rfl))) Via.refl rfl p43_4 (g := (mkF m 51 #[.val (.ref a1), .val (.int ((((0 : Int32) + (1 : Int32)) + (1 : Int32)) + (1 : Int32)))] [(.ref a1)])) rfl rfl (hb hby d6_51)
  have J50 : ∀ t, Steps p.tables e below (T49.setTop (mkF m 54 #[.val (.ref a1), .val (.int ((((0 : Int32) + (1 : Int32)) + (1 : Int32)) + (1 : Int32)))] [(.long z0_43)])) t → Steps p.tables e below (s₁.setTop (entryFrame m #[(.ref a1)] 2)) t := fun t k => J48 t (st49 t k)
  have J51 : ∀ t, Steps p.tables e below (T49.setTop (mkF m 55 #[.val (.ref a1), .val (.int ((((0 : Int32) + (1 : Int32)) + (1 : Int32)) + (1 : Int32)))] [(.ref a1), (.long z0_43)])) t → Steps p.tables e below (s₁.setTop (entryFrame m #[(.ref a1)] 2)) t := fun t k => J50 t (by
      show Steps p.tables e below (T49.setTop (mkF m 54 #[.val (.ref a1), .val (.int ((((0 : Int32) + (1 : Int32)) + (1 : Int32)) + (1 : Int32)))] [(.long z0_43)])) _
      refine XS.aloadN X49.here hx rfl (hb hby d6_54) rfl rfl ?_
      exact k)
  obtain ⟨T52, X52, e52, st52⟩ := getF X49 hx hZ hown (host := "") (Or.inl (hw _ (List.mem_of_getElem? (i := 23) rfl))) Via.refl e49 p43_5 (g := (mkF m 55 #[.val (.ref a1), .val (.int ((((0 : Int32) + (1 : Int32)) + (1 : Int32)) + (1 : Int32)))] [(.ref a1), (.long z0_43)])) rfl rfl (hb hby d6_55)
  have J53 : ∀ t, Steps p.tables e below (T52.setTop (mkF m 58 #[.val (.ref a1), .val (.int ((((0 : Int32) + (1 : Int32)) + (1 : Int32)) + (1 : Int32)))] [(.long z1_43), (.long z0_43)])) t → Steps p.tables e below (s₁.setTop (entryFrame m #[(.ref a1)] 2)) t := fun t k => J51 t (st52 t k)
  have J54 : ∀ t, Steps p.tables e below (T52.setTop (mkF m 60 #[.val (.ref a1), .val (.int ((((0 : Int32) + (1 : Int32)) + (1 : Int32)) + (1 : Int32)))] [(.ref a1), (.long (z0_43 ^^^ z1_43))])) t → Steps p.tables e below (s₁.setTop (entryFrame m #[(.ref a1)] 2)) t := fun t k => J53 t (by
      show Steps p.tables e below (T52.setTop (mkF m 58 #[.val (.ref a1), .val (.int ((((0 : Int32) + (1 : Int32)) + (1 : Int32)) + (1 : Int32)))] [(.long z1_43), (.long z0_43)])) _
      refine XS.lxor X52.here hx rfl (hb hby d6_58) rfl ?_
      show Steps p.tables e below (T52.setTop (mkF m 59 #[.val (.ref a1), .val (.int ((((0 : Int32) + (1 : Int32)) + (1 : Int32)) + (1 : Int32)))] [(.long (z0_43 ^^^ z1_43))])) _
      refine XS.aloadN X52.here hx rfl (hb hby d6_59) rfl rfl ?_
      exact k)
  obtain ⟨T55, X55, e55, st55⟩ := getF X52 hx hZ hown (host := "") (Or.inl (hw _ (List.mem_of_getElem? (i := 26) rfl))) Via.refl e52 p43_6 (g := (mkF m 60 #[.val (.ref a1), .val (.int ((((0 : Int32) + (1 : Int32)) + (1 : Int32)) + (1 : Int32)))] [(.ref a1), (.long (z0_43 ^^^ z1_43))])) rfl rfl (hb hby d6_60)
  have J56 : ∀ t, Steps p.tables e below (T55.setTop (mkF m 63 #[.val (.ref a1), .val (.int ((((0 : Int32) + (1 : Int32)) + (1 : Int32)) + (1 : Int32)))] [(.long z2_43), (.long (z0_43 ^^^ z1_43))])) t → Steps p.tables e below (s₁.setTop (entryFrame m #[(.ref a1)] 2)) t := fun t k => J54 t (st55 t k)
  have J57 : ∀ t, Steps p.tables e below (T55.setTop (mkF m 65 #[.val (.ref a1), .val (.int ((((0 : Int32) + (1 : Int32)) + (1 : Int32)) + (1 : Int32)))] [(.ref a1), (.long ((z0_43 ^^^ z1_43) ^^^ z2_43))])) t → Steps p.tables e below (s₁.setTop (entryFrame m #[(.ref a1)] 2)) t := fun t k => J56 t (by
      show Steps p.tables e below (T55.setTop (mkF m 63 #[.val (.ref a1), .val (.int ((((0 : Int32) + (1 : Int32)) + (1 : Int32)) + (1 : Int32)))] [(.long z2_43), (.long (z0_43 ^^^ z1_43))])) _
      refine XS.lxor X55.here hx rfl (hb hby d6_63) rfl ?_
      show Steps p.tables e below (T55.setTop (mkF m 64 #[.val (.ref a1), .val (.int ((((0 : Int32) + (1 : Int32)) + (1 : Int32)) + (1 : Int32)))] [(.long ((z0_43 ^^^ z1_43) ^^^ z2_43))])) _
      refine XS.aloadN X55.here hx rfl (hb hby d6_64) rfl rfl ?_
      exact k)
  obtain ⟨T58, X58, e58, st58⟩ := getF X55 hx hZ hown (host := "") (Or.inl (hw _ (List.mem_of_getElem? (i := 29) rfl))) Via.refl e55 p43_7 (g := (mkF m 65 #[.val (.ref a1), .val (.int ((((0 : Int32) + (1 : Int32)) + (1 : Int32)) + (1 : Int32)))] [(.ref a1), (.long ((z0_43 ^^^ z1_43) ^^^ z2_43))])) rfl rfl (hb hby d6_65)
  have J59 : ∀ t, Steps p.tables e below (T58.setTop (mkF m 68 #[.val (.ref a1), .val (.int ((((0 : Int32) + (1 : Int32)) + (1 : Int32)) + (1 : Int32)))] [(.long z3_43), (.long ((z0_43 ^^^ z1_43) ^^^ z2_43))])) t → Steps p.tables e below (s₁.setTop (entryFrame m #[(.ref a1)] 2)) t := fun t k => J57 t (st58 t k)
  have hz : ((z0_43, z1_43, z2_43, z3_43, z4_43, z5_43) : SS) = own_end ((x0, x1, x2, x3, x4, x5) : SS) := own_end1 (S := ((x0, x1, x2, x3, x4, x5) : SS)) (A := (z0_8, z1_8, z2_8, z3_8, z4_8, z5_8)) rfl p8_10 p31_10 p37_10 p43_10
  have J60 : ∀ t, Steps p.tables e below (T58.setTop (mkF m 69 #[.val (.ref a1), .val (.int ((((0 : Int32) + (1 : Int32)) + (1 : Int32)) + (1 : Int32)))] [(.long (((z0_43 ^^^ z1_43) ^^^ z2_43) ^^^ z3_43))])) t → Steps p.tables e below (s₁.setTop (entryFrame m #[(.ref a1)] 2)) t := fun t k => J59 t (by
      show Steps p.tables e below (T58.setTop (mkF m 68 #[.val (.ref a1), .val (.int ((((0 : Int32) + (1 : Int32)) + (1 : Int32)) + (1 : Int32)))] [(.long z3_43), (.long ((z0_43 ^^^ z1_43) ^^^ z2_43))])) _
      refine XS.lxor X58.here hx rfl (hb hby d6_68) rfl ?_
      exact k)
  obtain ⟨fs, hr, hrun, hended, hW, hsame⟩ := X58.leave (v := some (.long (((z0_43 ^^^ z1_43) ^^^ z2_43) ^^^ z3_43))) (fun h => by rw [Bd.returns] at h; cases h)
  refine ⟨_, _, J60 _ ?_, hrun, hended, _, _, rfl, ?_, ⟨_, rfl⟩, hW, hsame.mono (by decide) (by decide)⟩
  · show Steps p.tables e below (T58.setTop (mkF m 69 #[.val (.ref a1), .val (.int ((((0 : Int32) + (1 : Int32)) + (1 : Int32)) + (1 : Int32)))] [(.long (((z0_43 ^^^ z1_43) ^^^ z2_43) ^^^ z3_43))])) _
    exact retJ X58 hx Bd.returns (hb hby d6_69) hr
  · show Q6 Z a1 k0 k1 x0 x1 x2 x3 x4 x5 h0 n0 _ T58.heap _
    rw [e58]
    exact ⟨z0_43, z1_43, z2_43, z3_43, z4_43, z5_43, rfl, N44, KK47, p43_1, p43_2, p43_3, p43_4, p43_5, p43_6, p43_7, p43_8, p43_9, hz⟩
theorem d4_0 : decode method_2_code 0 = .ok (.iload_n 3, 1) := by decide +kernel
theorem d4_1 : decode method_2_code 1 = .ok (.ifCond .le 10, 3) := by decide +kernel
theorem d4_4 : decode method_2_code 4 = .ok (.aload_n 0, 1) := by decide +kernel
theorem d4_5 : decode method_2_code 5 = .ok (.lload_n 1, 1) := by decide +kernel
theorem d4_6 : decode method_2_code 6 = .ok (.l2i, 1) := by decide +kernel
theorem d4_7 : decode method_2_code 7 = .ok (.i2c, 1) := by decide +kernel
theorem d4_8 : decode method_2_code 8 = .ok (.invokevirtual 7, 3) := by decide +kernel
theorem pd_3 : parseMethodDescriptor "(C)V" = some ⟨[.char], none⟩ := by decide +kernel
theorem d4_11 : decode method_2_code 11 = .ok (.iload_n 3, 1) := by decide +kernel
theorem d4_12 : decode method_2_code 12 = .ok (.iconst 1, 1) := by decide +kernel
theorem d4_13 : decode method_2_code 13 = .ok (.if_icmp .le 13, 3) := by decide +kernel
theorem d4_16 : decode method_2_code 16 = .ok (.aload_n 0, 1) := by decide +kernel
theorem d4_17 : decode method_2_code 17 = .ok (.lload_n 1, 1) := by decide +kernel
theorem d4_18 : decode method_2_code 18 = .ok (.bipush 16, 2) := by decide +kernel
theorem d4_20 : decode method_2_code 20 = .ok (.lushr, 1) := by decide +kernel
theorem d4_21 : decode method_2_code 21 = .ok (.l2i, 1) := by decide +kernel
theorem d4_22 : decode method_2_code 22 = .ok (.i2c, 1) := by decide +kernel
theorem d4_23 : decode method_2_code 23 = .ok (.invokevirtual 7, 3) := by decide +kernel
theorem d4_26 : decode method_2_code 26 = .ok (.iload_n 3, 1) := by decide +kernel
theorem d4_27 : decode method_2_code 27 = .ok (.iconst 2, 1) := by decide +kernel
theorem d4_28 : decode method_2_code 28 = .ok (.if_icmp .le 13, 3) := by decide +kernel
theorem d4_31 : decode method_2_code 31 = .ok (.aload_n 0, 1) := by decide +kernel
theorem d4_32 : decode method_2_code 32 = .ok (.lload_n 1, 1) := by decide +kernel
theorem d4_33 : decode method_2_code 33 = .ok (.bipush 32, 2) := by decide +kernel
theorem d4_35 : decode method_2_code 35 = .ok (.lushr, 1) := by decide +kernel
theorem d4_36 : decode method_2_code 36 = .ok (.l2i, 1) := by decide +kernel
theorem d4_37 : decode method_2_code 37 = .ok (.i2c, 1) := by decide +kernel
theorem d4_38 : decode method_2_code 38 = .ok (.invokevirtual 7, 3) := by decide +kernel
theorem d4_41 : decode method_2_code 41 = .ok (.iload_n 3, 1) := by decide +kernel
theorem d4_42 : decode method_2_code 42 = .ok (.iconst 3, 1) := by decide +kernel
theorem d4_43 : decode method_2_code 43 = .ok (.if_icmp .le 13, 3) := by decide +kernel
theorem d4_46 : decode method_2_code 46 = .ok (.aload_n 0, 1) := by decide +kernel
theorem d4_47 : decode method_2_code 47 = .ok (.lload_n 1, 1) := by decide +kernel
theorem d4_48 : decode method_2_code 48 = .ok (.bipush 48, 2) := by decide +kernel
theorem d4_50 : decode method_2_code 50 = .ok (.lushr, 1) := by decide +kernel
theorem d4_51 : decode method_2_code 51 = .ok (.l2i, 1) := by decide +kernel
theorem d4_52 : decode method_2_code 52 = .ok (.i2c, 1) := by decide +kernel
theorem d4_53 : decode method_2_code 53 = .ok (.invokevirtual 7, 3) := by decide +kernel
theorem d4_56 : decode method_2_code 56 = .ok (.return_, 1) := by decide +kernel
def own_fd0 (S : SS) (q1 : Int64) (p2 : Int32) : SS := if (0 : Int32) < p2 then own_add S ((q1.toInt32).toUInt32.toUInt16.toUInt32.toInt32) else S
def own_fd1 (S : SS) (q1 : Int64) (p2 : Int32) : SS := if (1 : Int32) < p2 then own_add S ((((q1.toUInt64 >>> ((16 : Int32) &&& 0x3f).toInt64.toUInt64).toInt64).toInt32).toUInt32.toUInt16.toUInt32.toInt32) else S
def own_fd2 (S : SS) (q1 : Int64) (p2 : Int32) : SS := if (2 : Int32) < p2 then own_add S ((((q1.toUInt64 >>> ((32 : Int32) &&& 0x3f).toInt64.toUInt64).toInt64).toInt32).toUInt32.toUInt16.toUInt32.toInt32) else S
def own_fd3 (S : SS) (q1 : Int64) (p2 : Int32) : SS := if (3 : Int32) < p2 then own_add S ((((q1.toUInt64 >>> ((48 : Int32) &&& 0x3f).toInt64.toUInt64).toInt64).toInt32).toUInt32.toUInt16.toUInt32.toInt32) else S
def own_feed (S : SS) (q1 : Int64) (p2 : Int32) : SS := (own_fd3 (own_fd2 (own_fd1 (own_fd0 S q1 p2) q1 p2) q1 p2) q1 p2)
theorem pn_4 : plainName "com/example/tranche/tranche/io/SipHashStartPinLaw" = true := by first | (simp [plainName, overriddenIn]; done) | decide +kernel
theorem ef_4_xxx (m : MethodId) (x0 : Addr) (x1 : Int64) (x2 : Int32) : entryFrame m #[(.ref x0), (.long x1), (.int x2)] 4 = mkF m 0 #[.val (.ref x0), .val (.long x1), .second, .val (.int x2)] [] := by first | (simp [entryFrame, mkF, argsToLocals, Value.category]; done) | rfl
def Q4 (Z : State) (a1 : Addr) (q1 : Int64) (p2 : Int32) (k0 : Int64) (k1 : Int64) (x0 : Int64) (x1 : Int64) (x2 : Int64) (x3 : Int64) (x4 : Int64) (x5 : Int32) (h0 : Heap) (n0 : Nat) (v : Option Value) (h : Heap) (L : List Loc) : Prop := ∃ (z0 : Int64) (z1 : Int64) (z2 : Int64) (z3 : Int64) (z4 : Int64) (z5 : Int32), v = none ∧ Fr n0 L ∧ Keep h0 h [a1] ∧ (Exa Z h a1 "com/example/tranche/tranche/io/SipHash") ∧ (Fld Z h a1 "com/example/tranche/tranche/io/SipHash" "key0" "J" (.long k0)) ∧ (Fld Z h a1 "com/example/tranche/tranche/io/SipHash" "key1" "J" (.long k1)) ∧ (Fld Z h a1 "com/example/tranche/tranche/io/SipHash" "v0" "J" (.long z0)) ∧ (Fld Z h a1 "com/example/tranche/tranche/io/SipHash" "v1" "J" (.long z1)) ∧ (Fld Z h a1 "com/example/tranche/tranche/io/SipHash" "v2" "J" (.long z2)) ∧ (Fld Z h a1 "com/example/tranche/tranche/io/SipHash" "v3" "J" (.long z3)) ∧ (Fld Z h a1 "com/example/tranche/tranche/io/SipHash" "word" "J" (.long z4)) ∧ (Fld Z h a1 "com/example/tranche/tranche/io/SipHash" "length" "I" (.int z5)) ∧ (((z0, z1, z2, z3, z4, z5) : SS) = own_feed ((x0, x1, x2, x3, x4, x5) : SS) q1 p2)
set_option maxRecDepth 65536 in
set_option maxHeartbeats 40000000 in
theorem rm4 (l : Launch) (Z : State) (a0 : Array Value) (hw : ∀ d ∈ tables_1, d.before a0 Z = true) (ws : List Jvm.Cond) (a1 : Addr) (q1 : Int64) (p2 : Int32) (k0 : Int64) (k1 : Int64) (x0 : Int64) (x1 : Int64) (x2 : Int64) (x3 : Int64) (x4 : Int64) (x5 : Int32) (h0 : Heap) (n0 : Nat) (Z0 : n0 ≤ h0.size) (E_a1 : Exa Z h0 a1 "com/example/tranche/tranche/io/SipHash") (g_a1 : n0 ≤ a1) (F_key0_a1 : Fld Z h0 a1 "com/example/tranche/tranche/io/SipHash" "key0" "J" (.long k0)) (F_key1_a1 : Fld Z h0 a1 "com/example/tranche/tranche/io/SipHash" "key1" "J" (.long k1)) (F_v0_a1 : Fld Z h0 a1 "com/example/tranche/tranche/io/SipHash" "v0" "J" (.long x0)) (F_v1_a1 : Fld Z h0 a1 "com/example/tranche/tranche/io/SipHash" "v1" "J" (.long x1)) (F_v2_a1 : Fld Z h0 a1 "com/example/tranche/tranche/io/SipHash" "v2" "J" (.long x2)) (F_v3_a1 : Fld Z h0 a1 "com/example/tranche/tranche/io/SipHash" "v3" "J" (.long x3)) (F_word_a1 : Fld Z h0 a1 "com/example/tranche/tranche/io/SipHash" "word" "J" (.long x4)) (F_length_a1 : Fld Z h0 a1 "com/example/tranche/tranche/io/SipHash" "length" "I" (.int x5)) :
    MetFree l (⟨"com/example/tranche/tranche/io/SipHashStartPinLaw", "feed", "(Lcom/example/tranche/tranche/io/SipHash;JI)V"⟩ : MethodName) (head1 (Jvm.Cond.code (⟨"com/example/tranche/tranche/io/SipHashStartPinLaw", "feed", "(Lcom/example/tranche/tranche/io/SipHash;JI)V"⟩ : MethodName) method_2_code 4 none :: ws) ({ frames := 4, cells := 0, slots := 0, locals := 55 } : Room)) (fun a U => a = #[(.ref a1), (.long q1), (.int p2)] ∧ Z.Warmed39 U.vm ∧ U.heap = h0) (fun _ _ _ _ _ => True) (fun _ U o U' => ∃ v L, o = .returned v ∧ Q4 Z a1 q1 p2 k0 k1 x0 x1 x2 x3 x4 x5 h0 n0 v U'.heap L ∧ FrameEnd U o U' L ({ frames := 4, cells := 0, slots := 0, locals := 55 } : Room).cells ({ frames := 4, cells := 0, slots := 0, locals := 55 } : Room).slots) := by
  refine MetFree.of_bodySF (plainFor_of_name pn_4) hisR ?_
  intro p e s m args below meth c s₁ Bd hml0 hP hK
  obtain ⟨rfl, hZ, hh⟩ := hP
  have hx := Bd.exec
  have hby := Bd.bytes
  have hml : c.maxLocals = 4 := hml0
  have hown : s.vm.findClass "com/example/tranche/tranche/io/SipHashStartPinLaw" = some m.cls := findClass_of_methodNamed Bd.named
  have hnm := (name_of_methodNamed Bd.named Bd.method).1
  have X0 : Stand p l e ({ frames := 4, cells := 0, slots := 0, locals := 55 } : Room) s m #[(.ref a1), (.long q1), (.int p2)] below meth c s₁ [] 0 0 := Stand.of_body Bd
  have e0 : s₁.heap = h0 := by rw [← hh, Bd.state]; rfl
  have N0 := Fr.nil n0
  have pre0 : ∀ t, Steps p.tables e below (s₁.setTop (mkF m 0 #[.val (.ref a1), .val (.long q1), .second, .val (.int p2)] [])) t → Steps p.tables e below (s₁.setTop (entryFrame m #[(.ref a1), (.long q1), (.int p2)] 4)) t := fun t k => castTop (ef_4_xxx m a1 q1 p2) k
  have J1 : ∀ t, Steps p.tables e below (s₁.setTop (mkF m 1 #[.val (.ref a1), .val (.long q1), .second, .val (.int p2)] [(.int p2)])) t → Steps p.tables e below (s₁.setTop (entryFrame m #[(.ref a1), (.long q1), (.int p2)] 4)) t := fun t k => pre0 t (by
      show Steps p.tables e below (s₁.setTop (mkF m 0 #[.val (.ref a1), .val (.long q1), .second, .val (.int p2)] [])) _
      refine XS.iloadN X0.here hx rfl (hb hby d4_0) rfl ?_
      exact k)
  have mg9 : ∃ (T' : State) (h' : Heap) (locs' : List Loc) (z0 : Int64) (z1 : Int64) (z2 : Int64) (z3 : Int64) (z4 : Int64) (z5 : Int32), Stand p l e ({ frames := 4, cells := 0, slots := 0, locals := 55 } : Room) s m #[(.ref a1), (.long q1), (.int p2)] below meth c T' locs' 0 0 ∧ T'.heap = h' ∧ Fr n0 locs' ∧ n0 ≤ h'.size ∧ Keep h0 h' [a1] ∧ (Exa Z h' a1 "com/example/tranche/tranche/io/SipHash") ∧ (Fld Z h' a1 "com/example/tranche/tranche/io/SipHash" "key0" "J" (.long k0)) ∧ (Fld Z h' a1 "com/example/tranche/tranche/io/SipHash" "key1" "J" (.long k1)) ∧ (Fld Z h' a1 "com/example/tranche/tranche/io/SipHash" "v0" "J" (.long z0)) ∧ (Fld Z h' a1 "com/example/tranche/tranche/io/SipHash" "v1" "J" (.long z1)) ∧ (Fld Z h' a1 "com/example/tranche/tranche/io/SipHash" "v2" "J" (.long z2)) ∧ (Fld Z h' a1 "com/example/tranche/tranche/io/SipHash" "v3" "J" (.long z3)) ∧ (Fld Z h' a1 "com/example/tranche/tranche/io/SipHash" "word" "J" (.long z4)) ∧ (Fld Z h' a1 "com/example/tranche/tranche/io/SipHash" "length" "I" (.int z5)) ∧ (((z0, z1, z2, z3, z4, z5) : SS) = (if (0 : Int32) < p2 then own_add ((x0, x1, x2, x3, x4, x5) : SS) ((q1.toInt32).toUInt32.toUInt16.toUInt32.toInt32) else ((x0, x1, x2, x3, x4, x5) : SS))) ∧ ∀ t, Steps p.tables e below (T'.setTop (mkF m 11 #[.val (.ref a1), .val (.long q1), .second, .val (.int p2)] [])) t → Steps p.tables e below (s₁.setTop (mkF m 1 #[.val (.ref a1), .val (.long q1), .second, .val (.int p2)] [(.int p2)])) t := by
    by_cases hq : (0 : Int32) < p2
    ·
      have J2 : ∀ t, Steps p.tables e below (s₁.setTop (mkF m 8 #[.val (.ref a1), .val (.long q1), .second, .val (.int p2)] [(.int ((q1.toInt32).toUInt32.toUInt16.toUInt32.toInt32)), (.ref a1)])) t → Steps p.tables e below (s₁.setTop (mkF m 1 #[.val (.ref a1), .val (.long q1), .second, .val (.int p2)] [(.int p2)])) t := fun t k => id (by
          show Steps p.tables e below (s₁.setTop (mkF m 1 #[.val (.ref a1), .val (.long q1), .second, .val (.int p2)] [(.int p2)])) _
          refine XS.ifNo X0.here hx rfl (hb hby d4_1) rfl ((if0 _ _).trans (tlt hq).2.2.2) ?_
          show Steps p.tables e below (s₁.setTop (mkF m 4 #[.val (.ref a1), .val (.long q1), .second, .val (.int p2)] [])) _
          refine XS.aloadN X0.here hx rfl (hb hby d4_4) rfl rfl ?_
          show Steps p.tables e below (s₁.setTop (mkF m 5 #[.val (.ref a1), .val (.long q1), .second, .val (.int p2)] [(.ref a1)])) _
          refine XS.lloadN X0.here hx rfl (hb hby d4_5) rfl ?_
          show Steps p.tables e below (s₁.setTop (mkF m 6 #[.val (.ref a1), .val (.long q1), .second, .val (.int p2)] [(.long q1), (.ref a1)])) _
          refine XS.l2i X0.here hx rfl (hb hby d4_6) rfl ?_
          show Steps p.tables e below (s₁.setTop (mkF m 7 #[.val (.ref a1), .val (.long q1), .second, .val (.int p2)] [(.int (q1.toInt32)), (.ref a1)])) _
          refine XS.i2c X0.here hx rfl (hb hby d4_7) rfl ?_
          exact k)
      obtain ⟨cq3, kq3, q3a, q3b, q3c⟩ := isOf hZ e0 E_a1
      obtain ⟨_, _, ⟨T3, L3, k3, n3⟩, -, X3, ⟨Lc3, hQ3, l3, y3, z3⟩, st3⟩ := X0.virtualBack hx (y := (⟨"com/example/tranche/tranche/io/SipHash", "add", "(C)V"⟩ : MethodName)) (z := (⟨"com/example/tranche/tranche/io/SipHash", "add", "(C)V"⟩ : MethodName)) hown (mvT hZ (hw _ (List.mem_of_getElem? (i := 39) rfl))) (mvT hZ (hw _ (List.mem_of_getElem? (i := 40) rfl))) (notFace_of_selects (args := #[]) (mvT hZ (hw _ (List.mem_of_getElem? (i := 42) rfl)))) (mvT hZ (hw _ (List.mem_of_getElem? (i := 42) rfl))) (mvT hZ (hw _ (List.mem_of_getElem? (i := 41) rfl))) (by decide) (backOf (W := 0) (rm5 l Z a0 hw [] a1 ((q1.toInt32).toUInt32.toUInt16.toUInt32.toInt32) k0 k1 x0 x1 x2 x3 x4 x5 h0 n0 Z0 E_a1 g_a1 F_key0_a1 F_key1_a1 F_v0_a1 F_v1_a1 F_v2_a1 F_v3_a1 F_word_a1 F_length_a1) hZ (hw _ (List.mem_of_getElem? (i := 43) rfl)) (hw _ (List.mem_of_getElem? (i := 3) rfl)) (by decide) (by decide)) q3a q3c (g := (mkF m 8 #[.val (.ref a1), .val (.long q1), .second, .val (.int p2)] [(.int ((q1.toInt32).toUInt32.toUInt16.toUInt32.toInt32)), (.ref a1)])) rfl (by rw [hml]; rfl) (Steps.refl _) (argsL := [(.int ((q1.toInt32).toUInt32.toUInt16.toUInt32.toInt32))]) (rest := []) (lenOf pd_3 rfl) rfl (by show 2 * 0 + _ ≤ _; exact Nat.le_of_eq rfl) (hb hby d4_8) (fun _ _ => ⟨rfl, e0, (by decide : 0 + 0 ≤ _), (by decide : 0 + 0 ≤ _)⟩)
      dsimp only [Pt.U, Pt.locs, Pt.cells, Pt.slots] at X3 l3 y3 z3 st3 hQ3
      subst l3 y3 z3
      obtain ⟨z0_3, z1_3, z2_3, z3_3, z4_3, z5_3, rfl, Nq3, K3, p3_1, p3_2, p3_3, p3_4, p3_5, p3_6, p3_7, p3_8, p3_9, p3_10⟩ := hQ3
      have N4 := Fr.app N0 Nq3
      have J5 : ∀ t, Steps p.tables e below (T3.setTop (mkF m 11 #[.val (.ref a1), .val (.long q1), .second, .val (.int p2)] [])) t → Steps p.tables e below (s₁.setTop (mkF m 1 #[.val (.ref a1), .val (.long q1), .second, .val (.int p2)] [(.int p2)])) t := fun t k => J2 t (st3.trans k)
      have Z6 : n0 ≤ T3.heap.size := Nat.le_trans Z0 K3.1
      have KK7 : Keep h0 T3.heap [a1] := (Keep.refl h0 [a1]).trans K3 (allS (Or.inl (List.mem_of_getElem? (i := 0) rfl)) all0)
      exact ⟨T3, T3.heap, _, z0_3, z1_3, z2_3, z3_3, z4_3, z5_3, X3, rfl, N4, Z6, KK7, p3_1, p3_2, p3_3, p3_4, p3_5, p3_6, p3_7, p3_8, p3_9, (by rw [if_pos hq]; exact p3_10), J5⟩
    ·
      have J8 : ∀ t, Steps p.tables e below (s₁.setTop (mkF m 11 #[.val (.ref a1), .val (.long q1), .second, .val (.int p2)] [])) t → Steps p.tables e below (s₁.setTop (mkF m 1 #[.val (.ref a1), .val (.long q1), .second, .val (.int p2)] [(.int p2)])) t := fun t k => id (by
          show Steps p.tables e below (s₁.setTop (mkF m 1 #[.val (.ref a1), .val (.long q1), .second, .val (.int p2)] [(.int p2)])) _
          refine XS.ifYes X0.here hx rfl (pc0 := 1) (pc' := 11) rfl (hb hby d4_1) rfl ((if0 _ _).trans (flt hq).2.2.2) (by decide) (by decide) ?_
          exact k)
      exact ⟨s₁, h0, _, x0, x1, x2, x3, x4, x5, X0, e0, N0, Z0, (Keep.refl h0 [a1]), E_a1, F_key0_a1, F_key1_a1, F_v0_a1, F_v1_a1, F_v2_a1, F_v3_a1, F_word_a1, F_length_a1, (by rw [if_neg hq]), J8⟩
  obtain ⟨T10, h10, lo10, z0_10, z1_10, z2_10, z3_10, z4_10, z5_10, X10, e10, N10, Z10, K10, p10_1, p10_2, p10_3, p10_4, p10_5, p10_6, p10_7, p10_8, p10_9, p10_10, st10⟩ := mg9
  have J11 : ∀ t, Steps p.tables e below (T10.setTop (mkF m 11 #[.val (.ref a1), .val (.long q1), .second, .val (.int p2)] [])) t → Steps p.tables e below (s₁.setTop (entryFrame m #[(.ref a1), (.long q1), (.int p2)] 4)) t := fun t k => J1 t (st10 t k)
  have Z12 : n0 ≤ h10.size := Nat.le_trans Z0 K10.1
  have KK13 : Keep h0 h10 [a1] := (Keep.refl h0 [a1]).trans K10 (allS (Or.inl (List.mem_of_getElem? (i := 0) rfl)) all0)
  have J14 : ∀ t, Steps p.tables e below (T10.setTop (mkF m 13 #[.val (.ref a1), .val (.long q1), .second, .val (.int p2)] [(.int (1 : Int32)), (.int p2)])) t → Steps p.tables e below (s₁.setTop (entryFrame m #[(.ref a1), (.long q1), (.int p2)] 4)) t := fun t k => J11 t (by
      show Steps p.tables e below (T10.setTop (mkF m 11 #[.val (.ref a1), .val (.long q1), .second, .val (.int p2)] [])) _
      refine XS.iloadN X10.here hx rfl (hb hby d4_11) rfl ?_
      show Steps p.tables e below (T10.setTop (mkF m 12 #[.val (.ref a1), .val (.long q1), .second, .val (.int p2)] [(.int p2)])) _
      refine XS.iconst X10.here hx rfl (hb hby d4_12) ?_
      exact k)
  have mg22 : ∃ (T' : State) (h' : Heap) (locs' : List Loc) (z0 : Int64) (z1 : Int64) (z2 : Int64) (z3 : Int64) (z4 : Int64) (z5 : Int32), Stand p l e ({ frames := 4, cells := 0, slots := 0, locals := 55 } : Room) s m #[(.ref a1), (.long q1), (.int p2)] below meth c T' locs' 0 0 ∧ T'.heap = h' ∧ Fr n0 locs' ∧ n0 ≤ h'.size ∧ Keep h10 h' [a1] ∧ (Exa Z h' a1 "com/example/tranche/tranche/io/SipHash") ∧ (Fld Z h' a1 "com/example/tranche/tranche/io/SipHash" "key0" "J" (.long k0)) ∧ (Fld Z h' a1 "com/example/tranche/tranche/io/SipHash" "key1" "J" (.long k1)) ∧ (Fld Z h' a1 "com/example/tranche/tranche/io/SipHash" "v0" "J" (.long z0)) ∧ (Fld Z h' a1 "com/example/tranche/tranche/io/SipHash" "v1" "J" (.long z1)) ∧ (Fld Z h' a1 "com/example/tranche/tranche/io/SipHash" "v2" "J" (.long z2)) ∧ (Fld Z h' a1 "com/example/tranche/tranche/io/SipHash" "v3" "J" (.long z3)) ∧ (Fld Z h' a1 "com/example/tranche/tranche/io/SipHash" "word" "J" (.long z4)) ∧ (Fld Z h' a1 "com/example/tranche/tranche/io/SipHash" "length" "I" (.int z5)) ∧ (((z0, z1, z2, z3, z4, z5) : SS) = (if (1 : Int32) < p2 then own_add ((z0_10, z1_10, z2_10, z3_10, z4_10, z5_10) : SS) ((((q1.toUInt64 >>> ((16 : Int32) &&& 0x3f).toInt64.toUInt64).toInt64).toInt32).toUInt32.toUInt16.toUInt32.toInt32) else ((z0_10, z1_10, z2_10, z3_10, z4_10, z5_10) : SS))) ∧ ∀ t, Steps p.tables e below (T'.setTop (mkF m 26 #[.val (.ref a1), .val (.long q1), .second, .val (.int p2)] [])) t → Steps p.tables e below (T10.setTop (mkF m 13 #[.val (.ref a1), .val (.long q1), .second, .val (.int p2)] [(.int (1 : Int32)), (.int p2)])) t := by
    by_cases hq : (1 : Int32) < p2
    ·
      have J15 : ∀ t, Steps p.tables e below (T10.setTop (mkF m 23 #[.val (.ref a1), .val (.long q1), .second, .val (.int p2)] [(.int ((((q1.toUInt64 >>> ((16 : Int32) &&& 0x3f).toInt64.toUInt64).toInt64).toInt32).toUInt32.toUInt16.toUInt32.toInt32)), (.ref a1)])) t → Steps p.tables e below (T10.setTop (mkF m 13 #[.val (.ref a1), .val (.long q1), .second, .val (.int p2)] [(.int (1 : Int32)), (.int p2)])) t := fun t k => id (by
          show Steps p.tables e below (T10.setTop (mkF m 13 #[.val (.ref a1), .val (.long q1), .second, .val (.int p2)] [(.int (1 : Int32)), (.int p2)])) _
          refine XS.icmpNo X10.here hx rfl (hb hby d4_13) rfl (tlt hq).2.2.2 ?_
          show Steps p.tables e below (T10.setTop (mkF m 16 #[.val (.ref a1), .val (.long q1), .second, .val (.int p2)] [])) _
          refine XS.aloadN X10.here hx rfl (hb hby d4_16) rfl rfl ?_
          show Steps p.tables e below (T10.setTop (mkF m 17 #[.val (.ref a1), .val (.long q1), .second, .val (.int p2)] [(.ref a1)])) _
          refine XS.lloadN X10.here hx rfl (hb hby d4_17) rfl ?_
          show Steps p.tables e below (T10.setTop (mkF m 18 #[.val (.ref a1), .val (.long q1), .second, .val (.int p2)] [(.long q1), (.ref a1)])) _
          refine XS.bipush X10.here hx rfl (hb hby d4_18) ?_
          show Steps p.tables e below (T10.setTop (mkF m 20 #[.val (.ref a1), .val (.long q1), .second, .val (.int p2)] [(.int (16 : Int32)), (.long q1), (.ref a1)])) _
          refine XS.lushr X10.here hx rfl (hb hby d4_20) rfl ?_
          show Steps p.tables e below (T10.setTop (mkF m 21 #[.val (.ref a1), .val (.long q1), .second, .val (.int p2)] [(.long ((q1.toUInt64 >>> ((16 : Int32) &&& 0x3f).toInt64.toUInt64).toInt64)), (.ref a1)])) _
          refine XS.l2i X10.here hx rfl (hb hby d4_21) rfl ?_
          show Steps p.tables e below (T10.setTop (mkF m 22 #[.val (.ref a1), .val (.long q1), .second, .val (.int p2)] [(.int (((q1.toUInt64 >>> ((16 : Int32) &&& 0x3f).toInt64.toUInt64).toInt64).toInt32)), (.ref a1)])) _
          refine XS.i2c X10.here hx rfl (hb hby d4_22) rfl ?_
          exact k)
      obtain ⟨cq16, kq16, q16a, q16b, q16c⟩ := isOf hZ e10 p10_1
      obtain ⟨_, _, ⟨T16, L16, k16, n16⟩, -, X16, ⟨Lc16, hQ16, l16, y16, z16⟩, st16⟩ := X10.virtualBack hx (y := (⟨"com/example/tranche/tranche/io/SipHash", "add", "(C)V"⟩ : MethodName)) (z := (⟨"com/example/tranche/tranche/io/SipHash", "add", "(C)V"⟩ : MethodName)) hown (mvT hZ (hw _ (List.mem_of_getElem? (i := 39) rfl))) (mvT hZ (hw _ (List.mem_of_getElem? (i := 40) rfl))) (notFace_of_selects (args := #[]) (mvT hZ (hw _ (List.mem_of_getElem? (i := 42) rfl)))) (mvT hZ (hw _ (List.mem_of_getElem? (i := 42) rfl))) (mvT hZ (hw _ (List.mem_of_getElem? (i := 41) rfl))) (by decide) (backOf (W := 0) (rm5 l Z a0 hw [] a1 ((((q1.toUInt64 >>> ((16 : Int32) &&& 0x3f).toInt64.toUInt64).toInt64).toInt32).toUInt32.toUInt16.toUInt32.toInt32) k0 k1 z0_10 z1_10 z2_10 z3_10 z4_10 z5_10 h10 n0 Z12 p10_1 g_a1 p10_2 p10_3 p10_4 p10_5 p10_6 p10_7 p10_8 p10_9) hZ (hw _ (List.mem_of_getElem? (i := 43) rfl)) (hw _ (List.mem_of_getElem? (i := 3) rfl)) (by decide) (by decide)) q16a q16c (g := (mkF m 23 #[.val (.ref a1), .val (.long q1), .second, .val (.int p2)] [(.int ((((q1.toUInt64 >>> ((16 : Int32) &&& 0x3f).toInt64.toUInt64).toInt64).toInt32).toUInt32.toUInt16.toUInt32.toInt32)), (.ref a1)])) rfl (by rw [hml]; rfl) (Steps.refl _) (argsL := [(.int ((((q1.toUInt64 >>> ((16 : Int32) &&& 0x3f).toInt64.toUInt64).toInt64).toInt32).toUInt32.toUInt16.toUInt32.toInt32))]) (rest := []) (lenOf pd_3 rfl) rfl (by show 2 * 0 + _ ≤ _; exact Nat.le_of_eq rfl) (hb hby d4_23) (fun _ _ => ⟨rfl, e10, (by decide : 0 + 0 ≤ _), (by decide : 0 + 0 ≤ _)⟩)
      dsimp only [Pt.U, Pt.locs, Pt.cells, Pt.slots] at X16 l16 y16 z16 st16 hQ16
      subst l16 y16 z16
      obtain ⟨z0_16, z1_16, z2_16, z3_16, z4_16, z5_16, rfl, Nq16, K16, p16_1, p16_2, p16_3, p16_4, p16_5, p16_6, p16_7, p16_8, p16_9, p16_10⟩ := hQ16
      have N17 := Fr.app N10 Nq16
      have J18 : ∀ t, Steps p.tables e below (T16.setTop (mkF m 26 #[.val (.ref a1), .val (.long q1), .second, .val (.int p2)] [])) t → Steps p.tables e below (T10.setTop (mkF m 13 #[.val (.ref a1), .val (.long q1), .second, .val (.int p2)] [(.int (1 : Int32)), (.int p2)])) t := fun t k => J15 t (st16.trans k)
      have Z19 : n0 ≤ T16.heap.size := Nat.le_trans Z12 K16.1
      have KK20 : Keep h10 T16.heap [a1] := (Keep.refl h10 [a1]).trans K16 (allS (Or.inl (List.mem_of_getElem? (i := 0) rfl)) all0)
      exact ⟨T16, T16.heap, _, z0_16, z1_16, z2_16, z3_16, z4_16, z5_16, X16, rfl, N17, Z19, KK20, p16_1, p16_2, p16_3, p16_4, p16_5, p16_6, p16_7, p16_8, p16_9, (by rw [if_pos hq]; exact p16_10), J18⟩
    ·
      have J21 : ∀ t, Steps p.tables e below (T10.setTop (mkF m 26 #[.val (.ref a1), .val (.long q1), .second, .val (.int p2)] [])) t → Steps p.tables e below (T10.setTop (mkF m 13 #[.val (.ref a1), .val (.long q1), .second, .val (.int p2)] [(.int (1 : Int32)), (.int p2)])) t := fun t k => id (by
          show Steps p.tables e below (T10.setTop (mkF m 13 #[.val (.ref a1), .val (.long q1), .second, .val (.int p2)] [(.int (1 : Int32)), (.int p2)])) _
          refine XS.icmpYes X10.here hx rfl (pc0 := 13) (pc' := 26) rfl (hb hby d4_13) rfl (flt hq).2.2.2 (by decide) (by decide) ?_
          exact k)
      exact ⟨T10, h10, _, z0_10, z1_10, z2_10, z3_10, z4_10, z5_10, X10, e10, N10, Z12, (Keep.refl h10 [a1]), p10_1, p10_2, p10_3, p10_4, p10_5, p10_6, p10_7, p10_8, p10_9, (by rw [if_neg hq]), J21⟩
  obtain ⟨T23, h23, lo23, z0_23, z1_23, z2_23, z3_23, z4_23, z5_23, X23, e23, N23, Z23, K23, p23_1, p23_2, p23_3, p23_4, p23_5, p23_6, p23_7, p23_8, p23_9, p23_10, st23⟩ := mg22
  have J24 : ∀ t, Steps p.tables e below (T23.setTop (mkF m 26 #[.val (.ref a1), .val (.long q1), .second, .val (.int p2)] [])) t → Steps p.tables e below (s₁.setTop (entryFrame m #[(.ref a1), (.long q1), (.int p2)] 4)) t := fun t k => J14 t (st23 t k)
  have Z25 : n0 ≤ h23.size := Nat.le_trans Z12 K23.1
  have KK26 : Keep h0 h23 [a1] := KK13.trans K23 (allS (Or.inl (List.mem_of_getElem? (i := 0) rfl)) all0)
  have J27 : ∀ t, Steps p.tables e below (T23.setTop (mkF m 28 #[.val (.ref a1), .val (.long q1), .second, .val (.int p2)] [(.int (2 : Int32)), (.int p2)])) t → Steps p.tables e below (s₁.setTop (entryFrame m #[(.ref a1), (.long q1), (.int p2)] 4)) t := fun t k => J24 t (by
      show Steps p.tables e below (T23.setTop (mkF m 26 #[.val (.ref a1), .val (.long q1), .second, .val (.int p2)] [])) _
      refine XS.iloadN X23.here hx rfl (hb hby d4_26) rfl ?_
      show Steps p.tables e below (T23.setTop (mkF m 27 #[.val (.ref a1), .val (.long q1), .second, .val (.int p2)] [(.int p2)])) _
      refine XS.iconst X23.here hx rfl (hb hby d4_27) ?_
      exact k)
  have mg35 : ∃ (T' : State) (h' : Heap) (locs' : List Loc) (z0 : Int64) (z1 : Int64) (z2 : Int64) (z3 : Int64) (z4 : Int64) (z5 : Int32), Stand p l e ({ frames := 4, cells := 0, slots := 0, locals := 55 } : Room) s m #[(.ref a1), (.long q1), (.int p2)] below meth c T' locs' 0 0 ∧ T'.heap = h' ∧ Fr n0 locs' ∧ n0 ≤ h'.size ∧ Keep h23 h' [a1] ∧ (Exa Z h' a1 "com/example/tranche/tranche/io/SipHash") ∧ (Fld Z h' a1 "com/example/tranche/tranche/io/SipHash" "key0" "J" (.long k0)) ∧ (Fld Z h' a1 "com/example/tranche/tranche/io/SipHash" "key1" "J" (.long k1)) ∧ (Fld Z h' a1 "com/example/tranche/tranche/io/SipHash" "v0" "J" (.long z0)) ∧ (Fld Z h' a1 "com/example/tranche/tranche/io/SipHash" "v1" "J" (.long z1)) ∧ (Fld Z h' a1 "com/example/tranche/tranche/io/SipHash" "v2" "J" (.long z2)) ∧ (Fld Z h' a1 "com/example/tranche/tranche/io/SipHash" "v3" "J" (.long z3)) ∧ (Fld Z h' a1 "com/example/tranche/tranche/io/SipHash" "word" "J" (.long z4)) ∧ (Fld Z h' a1 "com/example/tranche/tranche/io/SipHash" "length" "I" (.int z5)) ∧ (((z0, z1, z2, z3, z4, z5) : SS) = (if (2 : Int32) < p2 then own_add ((z0_23, z1_23, z2_23, z3_23, z4_23, z5_23) : SS) ((((q1.toUInt64 >>> ((32 : Int32) &&& 0x3f).toInt64.toUInt64).toInt64).toInt32).toUInt32.toUInt16.toUInt32.toInt32) else ((z0_23, z1_23, z2_23, z3_23, z4_23, z5_23) : SS))) ∧ ∀ t, Steps p.tables e below (T'.setTop (mkF m 41 #[.val (.ref a1), .val (.long q1), .second, .val (.int p2)] [])) t → Steps p.tables e below (T23.setTop (mkF m 28 #[.val (.ref a1), .val (.long q1), .second, .val (.int p2)] [(.int (2 : Int32)), (.int p2)])) t := by
    by_cases hq : (2 : Int32) < p2
    ·
      have J28 : ∀ t, Steps p.tables e below (T23.setTop (mkF m 38 #[.val (.ref a1), .val (.long q1), .second, .val (.int p2)] [(.int ((((q1.toUInt64 >>> ((32 : Int32) &&& 0x3f).toInt64.toUInt64).toInt64).toInt32).toUInt32.toUInt16.toUInt32.toInt32)), (.ref a1)])) t → Steps p.tables e below (T23.setTop (mkF m 28 #[.val (.ref a1), .val (.long q1), .second, .val (.int p2)] [(.int (2 : Int32)), (.int p2)])) t := fun t k => id (by
          show Steps p.tables e below (T23.setTop (mkF m 28 #[.val (.ref a1), .val (.long q1), .second, .val (.int p2)] [(.int (2 : Int32)), (.int p2)])) _
          refine XS.icmpNo X23.here hx rfl (hb hby d4_28) rfl (tlt hq).2.2.2 ?_
          show Steps p.tables e below (T23.setTop (mkF m 31 #[.val (.ref a1), .val (.long q1), .second, .val (.int p2)] [])) _
          refine XS.aloadN X23.here hx rfl (hb hby d4_31) rfl rfl ?_
          show Steps p.tables e below (T23.setTop (mkF m 32 #[.val (.ref a1), .val (.long q1), .second, .val (.int p2)] [(.ref a1)])) _
          refine XS.lloadN X23.here hx rfl (hb hby d4_32) rfl ?_
          show Steps p.tables e below (T23.setTop (mkF m 33 #[.val (.ref a1), .val (.long q1), .second, .val (.int p2)] [(.long q1), (.ref a1)])) _
          refine XS.bipush X23.here hx rfl (hb hby d4_33) ?_
          show Steps p.tables e below (T23.setTop (mkF m 35 #[.val (.ref a1), .val (.long q1), .second, .val (.int p2)] [(.int (32 : Int32)), (.long q1), (.ref a1)])) _
          refine XS.lushr X23.here hx rfl (hb hby d4_35) rfl ?_
          show Steps p.tables e below (T23.setTop (mkF m 36 #[.val (.ref a1), .val (.long q1), .second, .val (.int p2)] [(.long ((q1.toUInt64 >>> ((32 : Int32) &&& 0x3f).toInt64.toUInt64).toInt64)), (.ref a1)])) _
          refine XS.l2i X23.here hx rfl (hb hby d4_36) rfl ?_
          show Steps p.tables e below (T23.setTop (mkF m 37 #[.val (.ref a1), .val (.long q1), .second, .val (.int p2)] [(.int (((q1.toUInt64 >>> ((32 : Int32) &&& 0x3f).toInt64.toUInt64).toInt64).toInt32)), (.ref a1)])) _
          refine XS.i2c X23.here hx rfl (hb hby d4_37) rfl ?_
          exact k)
      obtain ⟨cq29, kq29, q29a, q29b, q29c⟩ := isOf hZ e23 p23_1
      obtain ⟨_, _, ⟨T29, L29, k29, n29⟩, -, X29, ⟨Lc29, hQ29, l29, y29, z29⟩, st29⟩ := X23.virtualBack hx (y := (⟨"com/example/tranche/tranche/io/SipHash", "add", "(C)V"⟩ : MethodName)) (z := (⟨"com/example/tranche/tranche/io/SipHash", "add", "(C)V"⟩ : MethodName)) hown (mvT hZ (hw _ (List.mem_of_getElem? (i := 39) rfl))) (mvT hZ (hw _ (List.mem_of_getElem? (i := 40) rfl))) (notFace_of_selects (args := #[]) (mvT hZ (hw _ (List.mem_of_getElem? (i := 42) rfl)))) (mvT hZ (hw _ (List.mem_of_getElem? (i := 42) rfl))) (mvT hZ (hw _ (List.mem_of_getElem? (i := 41) rfl))) (by decide) (backOf (W := 0) (rm5 l Z a0 hw [] a1 ((((q1.toUInt64 >>> ((32 : Int32) &&& 0x3f).toInt64.toUInt64).toInt64).toInt32).toUInt32.toUInt16.toUInt32.toInt32) k0 k1 z0_23 z1_23 z2_23 z3_23 z4_23 z5_23 h23 n0 Z25 p23_1 g_a1 p23_2 p23_3 p23_4 p23_5 p23_6 p23_7 p23_8 p23_9) hZ (hw _ (List.mem_of_getElem? (i := 43) rfl)) (hw _ (List.mem_of_getElem? (i := 3) rfl)) (by decide) (by decide)) q29a q29c (g := (mkF m 38 #[.val (.ref a1), .val (.long q1), .second, .val (.int p2)] [(.int ((((q1.toUInt64 >>> ((32 : Int32) &&& 0x3f).toInt64.toUInt64).toInt64).toInt32).toUInt32.toUInt16.toUInt32.toInt32)), (.ref a1)])) rfl (by rw [hml]; rfl) (Steps.refl _) (argsL := [(.int ((((q1.toUInt64 >>> ((32 : Int32) &&& 0x3f).toInt64.toUInt64).toInt64).toInt32).toUInt32.toUInt16.toUInt32.toInt32))]) (rest := []) (lenOf pd_3 rfl) rfl (by show 2 * 0 + _ ≤ _; exact Nat.le_of_eq rfl) (hb hby d4_38) (fun _ _ => ⟨rfl, e23, (by decide : 0 + 0 ≤ _), (by decide : 0 + 0 ≤ _)⟩)
      dsimp only [Pt.U, Pt.locs, Pt.cells, Pt.slots] at X29 l29 y29 z29 st29 hQ29
      subst l29 y29 z29
      obtain ⟨z0_29, z1_29, z2_29, z3_29, z4_29, z5_29, rfl, Nq29, K29, p29_1, p29_2, p29_3, p29_4, p29_5, p29_6, p29_7, p29_8, p29_9, p29_10⟩ := hQ29
      have N30 := Fr.app N23 Nq29
      have J31 : ∀ t, Steps p.tables e below (T29.setTop (mkF m 41 #[.val (.ref a1), .val (.long q1), .second, .val (.int p2)] [])) t → Steps p.tables e below (T23.setTop (mkF m 28 #[.val (.ref a1), .val (.long q1), .second, .val (.int p2)] [(.int (2 : Int32)), (.int p2)])) t := fun t k => J28 t (st29.trans k)
      have Z32 : n0 ≤ T29.heap.size := Nat.le_trans Z25 K29.1
      have KK33 : Keep h23 T29.heap [a1] := (Keep.refl h23 [a1]).trans K29 (allS (Or.inl (List.mem_of_getElem? (i := 0) rfl)) all0)
      exact ⟨T29, T29.heap, _, z0_29, z1_29, z2_29, z3_29, z4_29, z5_29, X29, rfl, N30, Z32, KK33, p29_1, p29_2, p29_3, p29_4, p29_5, p29_6, p29_7, p29_8, p29_9, (by rw [if_pos hq]; exact p29_10), J31⟩
    ·
      have J34 : ∀ t, Steps p.tables e below (T23.setTop (mkF m 41 #[.val (.ref a1), .val (.long q1), .second, .val (.int p2)] [])) t → Steps p.tables e below (T23.setTop (mkF m 28 #[.val (.ref a1), .val (.long q1), .second, .val (.int p2)] [(.int (2 : Int32)), (.int p2)])) t := fun t k => id (by
          show Steps p.tables e below (T23.setTop (mkF m 28 #[.val (.ref a1), .val (.long q1), .second, .val (.int p2)] [(.int (2 : Int32)), (.int p2)])) _
          refine XS.icmpYes X23.here hx rfl (pc0 := 28) (pc' := 41) rfl (hb hby d4_28) rfl (flt hq).2.2.2 (by decide) (by decide) ?_
          exact k)
      exact ⟨T23, h23, _, z0_23, z1_23, z2_23, z3_23, z4_23, z5_23, X23, e23, N23, Z25, (Keep.refl h23 [a1]), p23_1, p23_2, p23_3, p23_4, p23_5, p23_6, p23_7, p23_8, p23_9, (by rw [if_neg hq]), J34⟩
  obtain ⟨T36, h36, lo36, z0_36, z1_36, z2_36, z3_36, z4_36, z5_36, X36, e36, N36, Z36, K36, p36_1, p36_2, p36_3, p36_4, p36_5, p36_6, p36_7, p36_8, p36_9, p36_10, st36⟩ := mg35
  have J37 : ∀ t, Steps p.tables e below (T36.setTop (mkF m 41 #[.val (.ref a1), .val (.long q1), .second, .val (.int p2)] [])) t → Steps p.tables e below (s₁.setTop (entryFrame m #[(.ref a1), (.long q1), (.int p2)] 4)) t := fun t k => J27 t (st36 t k)
  have Z38 : n0 ≤ h36.size := Nat.le_trans Z25 K36.1
  have KK39 : Keep h0 h36 [a1] := KK26.trans K36 (allS (Or.inl (List.mem_of_getElem? (i := 0) rfl)) all0)
  have J40 : ∀ t, Steps p.tables e below (T36.setTop (mkF m 43 #[.val (.ref a1), .val (.long q1), .second, .val (.int p2)] [(.int (3 : Int32)), (.int p2)])) t → Steps p.tables e below (s₁.setTop (entryFrame m #[(.ref a1), (.long q1), (.int p2)] 4)) t := fun t k => J37 t (by
      show Steps p.tables e below (T36.setTop (mkF m 41 #[.val (.ref a1), .val (.long q1), .second, .val (.int p2)] [])) _
      refine XS.iloadN X36.here hx rfl (hb hby d4_41) rfl ?_
      show Steps p.tables e below (T36.setTop (mkF m 42 #[.val (.ref a1), .val (.long q1), .second, .val (.int p2)] [(.int p2)])) _
      refine XS.iconst X36.here hx rfl (hb hby d4_42) ?_
      exact k)
  have mg48 : ∃ (T' : State) (h' : Heap) (locs' : List Loc) (z0 : Int64) (z1 : Int64) (z2 : Int64) (z3 : Int64) (z4 : Int64) (z5 : Int32), Stand p l e ({ frames := 4, cells := 0, slots := 0, locals := 55 } : Room) s m #[(.ref a1), (.long q1), (.int p2)] below meth c T' locs' 0 0 ∧ T'.heap = h' ∧ Fr n0 locs' ∧ n0 ≤ h'.size ∧ Keep h36 h' [a1] ∧ (Exa Z h' a1 "com/example/tranche/tranche/io/SipHash") ∧ (Fld Z h' a1 "com/example/tranche/tranche/io/SipHash" "key0" "J" (.long k0)) ∧ (Fld Z h' a1 "com/example/tranche/tranche/io/SipHash" "key1" "J" (.long k1)) ∧ (Fld Z h' a1 "com/example/tranche/tranche/io/SipHash" "v0" "J" (.long z0)) ∧ (Fld Z h' a1 "com/example/tranche/tranche/io/SipHash" "v1" "J" (.long z1)) ∧ (Fld Z h' a1 "com/example/tranche/tranche/io/SipHash" "v2" "J" (.long z2)) ∧ (Fld Z h' a1 "com/example/tranche/tranche/io/SipHash" "v3" "J" (.long z3)) ∧ (Fld Z h' a1 "com/example/tranche/tranche/io/SipHash" "word" "J" (.long z4)) ∧ (Fld Z h' a1 "com/example/tranche/tranche/io/SipHash" "length" "I" (.int z5)) ∧ (((z0, z1, z2, z3, z4, z5) : SS) = (if (3 : Int32) < p2 then own_add ((z0_36, z1_36, z2_36, z3_36, z4_36, z5_36) : SS) ((((q1.toUInt64 >>> ((48 : Int32) &&& 0x3f).toInt64.toUInt64).toInt64).toInt32).toUInt32.toUInt16.toUInt32.toInt32) else ((z0_36, z1_36, z2_36, z3_36, z4_36, z5_36) : SS))) ∧ ∀ t, Steps p.tables e below (T'.setTop (mkF m 56 #[.val (.ref a1), .val (.long q1), .second, .val (.int p2)] [])) t → Steps p.tables e below (T36.setTop (mkF m 43 #[.val (.ref a1), .val (.long q1), .second, .val (.int p2)] [(.int (3 : Int32)), (.int p2)])) t := by
    by_cases hq : (3 : Int32) < p2
    ·
      have J41 : ∀ t, Steps p.tables e below (T36.setTop (mkF m 53 #[.val (.ref a1), .val (.long q1), .second, .val (.int p2)] [(.int ((((q1.toUInt64 >>> ((48 : Int32) &&& 0x3f).toInt64.toUInt64).toInt64).toInt32).toUInt32.toUInt16.toUInt32.toInt32)), (.ref a1)])) t → Steps p.tables e below (T36.setTop (mkF m 43 #[.val (.ref a1), .val (.long q1), .second, .val (.int p2)] [(.int (3 : Int32)), (.int p2)])) t := fun t k => id (by
          show Steps p.tables e below (T36.setTop (mkF m 43 #[.val (.ref a1), .val (.long q1), .second, .val (.int p2)] [(.int (3 : Int32)), (.int p2)])) _
          refine XS.icmpNo X36.here hx rfl (hb hby d4_43) rfl (tlt hq).2.2.2 ?_
          show Steps p.tables e below (T36.setTop (mkF m 46 #[.val (.ref a1), .val (.long q1), .second, .val (.int p2)] [])) _
          refine XS.aloadN X36.here hx rfl (hb hby d4_46) rfl rfl ?_
          show Steps p.tables e below (T36.setTop (mkF m 47 #[.val (.ref a1), .val (.long q1), .second, .val (.int p2)] [(.ref a1)])) _
          refine XS.lloadN X36.here hx rfl (hb hby d4_47) rfl ?_
          show Steps p.tables e below (T36.setTop (mkF m 48 #[.val (.ref a1), .val (.long q1), .second, .val (.int p2)] [(.long q1), (.ref a1)])) _
          refine XS.bipush X36.here hx rfl (hb hby d4_48) ?_
          show Steps p.tables e below (T36.setTop (mkF m 50 #[.val (.ref a1), .val (.long q1), .second, .val (.int p2)] [(.int (48 : Int32)), (.long q1), (.ref a1)])) _
          refine XS.lushr X36.here hx rfl (hb hby d4_50) rfl ?_
          show Steps p.tables e below (T36.setTop (mkF m 51 #[.val (.ref a1), .val (.long q1), .second, .val (.int p2)] [(.long ((q1.toUInt64 >>> ((48 : Int32) &&& 0x3f).toInt64.toUInt64).toInt64)), (.ref a1)])) _
          refine XS.l2i X36.here hx rfl (hb hby d4_51) rfl ?_
          show Steps p.tables e below (T36.setTop (mkF m 52 #[.val (.ref a1), .val (.long q1), .second, .val (.int p2)] [(.int (((q1.toUInt64 >>> ((48 : Int32) &&& 0x3f).toInt64.toUInt64).toInt64).toInt32)), (.ref a1)])) _
          refine XS.i2c X36.here hx rfl (hb hby d4_52) rfl ?_
          exact k)
      obtain ⟨cq42, kq42, q42a, q42b, q42c⟩ := isOf hZ e36 p36_1
      obtain ⟨_, _, ⟨T42, L42, k42, n42⟩, -, X42, ⟨Lc42, hQ42, l42, y42, z42⟩, st42⟩ := X36.virtualBack hx (y := (⟨"com/example/tranche/tranche/io/SipHash", "add", "(C)V"⟩ : MethodName)) (z := (⟨"com/example/tranche/tranche/io/SipHash", "add", "(C)V"⟩ : MethodName)) hown (mvT hZ (hw _ (List.mem_of_getElem? (i := 39) rfl))) (mvT hZ (hw _ (List.mem_of_getElem? (i := 40) rfl))) (notFace_of_selects (args := #[]) (mvT hZ (hw _ (List.mem_of_getElem? (i := 42) rfl)))) (mvT hZ (hw _ (List.mem_of_getElem? (i := 42) rfl))) (mvT hZ (hw _ (List.mem_of_getElem? (i := 41) rfl))) (by decide) (backOf (W := 0) (rm5 l Z a0 hw [] a1 ((((q1.toUInt64 >>> ((48 : Int32) &&& 0x3f).toInt64.toUInt64).toInt64).toInt32).toUInt32.toUInt16.toUInt32.toInt32) k0 k1 z0_36 z1_36 z2_36 z3_36 z4_36 z5_36 h36 n0 Z38 p36_1 g_a1 p36_2 p36_3 p36_4 p36_5 p36_6 p36_7 p36_8 p36_9) hZ (hw _ (List.mem_of_getElem? (i := 43) rfl)) (hw _ (List.mem_of_getElem? (i := 3) rfl)) (by decide) (by decide)) q42a q42c (g := (mkF m 53 #[.val (.ref a1), .val (.long q1), .second, .val (.int p2)] [(.int ((((q1.toUInt64 >>> ((48 : Int32) &&& 0x3f).toInt64.toUInt64).toInt64).toInt32).toUInt32.toUInt16.toUInt32.toInt32)), (.ref a1)])) rfl (by rw [hml]; rfl) (Steps.refl _) (argsL := [(.int ((((q1.toUInt64 >>> ((48 : Int32) &&& 0x3f).toInt64.toUInt64).toInt64).toInt32).toUInt32.toUInt16.toUInt32.toInt32))]) (rest := []) (lenOf pd_3 rfl) rfl (by show 2 * 0 + _ ≤ _; exact Nat.le_of_eq rfl) (hb hby d4_53) (fun _ _ => ⟨rfl, e36, (by decide : 0 + 0 ≤ _), (by decide : 0 + 0 ≤ _)⟩)
      dsimp only [Pt.U, Pt.locs, Pt.cells, Pt.slots] at X42 l42 y42 z42 st42 hQ42
      subst l42 y42 z42
      obtain ⟨z0_42, z1_42, z2_42, z3_42, z4_42, z5_42, rfl, Nq42, K42, p42_1, p42_2, p42_3, p42_4, p42_5, p42_6, p42_7, p42_8, p42_9, p42_10⟩ := hQ42
      have N43 := Fr.app N36 Nq42
      have J44 : ∀ t, Steps p.tables e below (T42.setTop (mkF m 56 #[.val (.ref a1), .val (.long q1), .second, .val (.int p2)] [])) t → Steps p.tables e below (T36.setTop (mkF m 43 #[.val (.ref a1), .val (.long q1), .second, .val (.int p2)] [(.int (3 : Int32)), (.int p2)])) t := fun t k => J41 t (st42.trans k)
      have Z45 : n0 ≤ T42.heap.size := Nat.le_trans Z38 K42.1
      have KK46 : Keep h36 T42.heap [a1] := (Keep.refl h36 [a1]).trans K42 (allS (Or.inl (List.mem_of_getElem? (i := 0) rfl)) all0)
      exact ⟨T42, T42.heap, _, z0_42, z1_42, z2_42, z3_42, z4_42, z5_42, X42, rfl, N43, Z45, KK46, p42_1, p42_2, p42_3, p42_4, p42_5, p42_6, p42_7, p42_8, p42_9, (by rw [if_pos hq]; exact p42_10), J44⟩
    ·
      have J47 : ∀ t, Steps p.tables e below (T36.setTop (mkF m 56 #[.val (.ref a1), .val (.long q1), .second, .val (.int p2)] [])) t → Steps p.tables e below (T36.setTop (mkF m 43 #[.val (.ref a1), .val (.long q1), .second, .val (.int p2)] [(.int (3 : Int32)), (.int p2)])) t := fun t k => id (by
          show Steps p.tables e below (T36.setTop (mkF m 43 #[.val (.ref a1), .val (.long q1), .second, .val (.int p2)] [(.int (3 : Int32)), (.int p2)])) _
          refine XS.icmpYes X36.here hx rfl (pc0 := 43) (pc' := 56) rfl (hb hby d4_43) rfl (flt hq).2.2.2 (by decide) (by decide) ?_
          exact k)
      exact ⟨T36, h36, _, z0_36, z1_36, z2_36, z3_36, z4_36, z5_36, X36, e36, N36, Z38, (Keep.refl h36 [a1]), p36_1, p36_2, p36_3, p36_4, p36_5, p36_6, p36_7, p36_8, p36_9, (by rw [if_neg hq]), J47⟩
  obtain ⟨T49, h49, lo49, z0_49, z1_49, z2_49, z3_49, z4_49, z5_49, X49, e49, N49, Z49, K49, p49_1, p49_2, p49_3, p49_4, p49_5, p49_6, p49_7, p49_8, p49_9, p49_10, st49⟩ := mg48
  have J50 : ∀ t, Steps p.tables e below (T49.setTop (mkF m 56 #[.val (.ref a1), .val (.long q1), .second, .val (.int p2)] [])) t → Steps p.tables e below (s₁.setTop (entryFrame m #[(.ref a1), (.long q1), (.int p2)] 4)) t := fun t k => J40 t (st49 t k)
  have Z51 : n0 ≤ h49.size := Nat.le_trans Z38 K49.1
  have KK52 : Keep h0 h49 [a1] := KK39.trans K49 (allS (Or.inl (List.mem_of_getElem? (i := 0) rfl)) all0)
  have hz : ((z0_49, z1_49, z2_49, z3_49, z4_49, z5_49) : SS) = own_feed ((x0, x1, x2, x3, x4, x5) : SS) q1 p2 := by
    unfold own_feed own_fd0 own_fd1 own_fd2 own_fd3
    rw [p49_10, p36_10, p23_10, p10_10]
  obtain ⟨fs, hr, hrun, hended, hW, hsame⟩ := X49.leave (v := none) (fun _ => rfl)
  refine ⟨_, _, J50 _ ?_, hrun, hended, _, _, rfl, ?_, ⟨_, rfl⟩, hW, hsame.mono (by decide) (by decide)⟩
  · show Steps p.tables e below (T49.setTop (mkF m 56 #[.val (.ref a1), .val (.long q1), .second, .val (.int p2)] [])) _
    exact X49.returnOut hx Bd.returns (hb hby d4_56) hr
  · show Q4 Z a1 q1 p2 k0 k1 x0 x1 x2 x3 x4 x5 h0 n0 _ T49.heap _
    rw [e49]
    exact ⟨z0_49, z1_49, z2_49, z3_49, z4_49, z5_49, rfl, N49, KK52, p49_1, p49_2, p49_3, p49_4, p49_5, p49_6, p49_7, p49_8, p49_9, hz⟩
theorem pd_4 : parseMethodDescriptor "(JJ)V" = some ⟨[.long, .long], none⟩ := by decide +kernel
theorem pd_5 : parseMethodDescriptor "(Lcom/example/tranche/tranche/io/SipHash;JI)V" = some ⟨[(.object "com/example/tranche/tranche/io/SipHash"), .long, .int], none⟩ := by decide +kernel
theorem pd_6 : parseMethodDescriptor "()J" = some ⟨[], some .long⟩ := by decide +kernel
theorem pn_0 : plainName "com/example/tranche/tranche/io/SipHashStartPinLaw" = true := by first | (simp [plainName, overriddenIn]; done) | decide +kernel
theorem ef_0_xxxxx (m : MethodId) (x0 : Int64) (x1 : Int64) (x2 : Int64) (x3 : Int64) (x4 : Int32) : entryFrame m #[(.long x0), (.long x1), (.long x2), (.long x3), (.int x4)] maxLocals = mkF m 0 #[.val (.long x0), .second, .val (.long x1), .second, .val (.long x2), .second, .val (.long x3), .second, .val (.int x4), .unset, .unset, .unset, .unset, .unset, .unset, .unset, .unset, .unset] [] := by first | (simp [entryFrame, mkF, argsToLocals, Value.category, maxLocals]; done) | rfl
def Q0 (Z : State) (q0 : Int64) (q1 : Int64) (q2 : Int64) (q3 : Int64) (p4 : Int32) (h0 : Heap) (n0 : Nat) (v : Option Value) (h : Heap) (L : List Loc) : Prop := v = some (.int (1 : Int32)) ∧ Fr n0 L
set_option maxRecDepth 65536 in
set_option maxHeartbeats 40000000 in
theorem rm0 (l : Launch) (Z : State) (a0 : Array Value) (hw : ∀ d ∈ tables_1, d.before a0 Z = true) (ws : List Jvm.Cond) (q0 : Int64) (q1 : Int64) (q2 : Int64) (q3 : Int64) (p4 : Int32) (h0 : Heap) (n0 : Nat) (Z0 : n0 ≤ h0.size) :
    MetFree l x (head1 (Jvm.Cond.code x code maxLocals ret :: ws) room_1) (fun a U => a = #[(.long q0), (.long q1), (.long q2), (.long q3), (.int p4)] ∧ Z.Warmed39 U.vm ∧ U.heap = h0) (fun _ _ _ _ _ => True) (fun _ U o U' => ∃ v L, o = .returned v ∧ Q0 Z q0 q1 q2 q3 p4 h0 n0 v U'.heap L ∧ FrameEnd U o U' L room_1.cells room_1.slots) := by
  refine MetFree.of_bodySF (plainFor_of_name pn_0) hisR ?_
  intro p e s m args below meth c s₁ Bd hml0 hP hK
  obtain ⟨rfl, hZ, hh⟩ := hP
  have hx := Bd.exec
  have hby := Bd.bytes
  have hml : c.maxLocals = 18 := hml0
  have hown : s.vm.findClass "com/example/tranche/tranche/io/SipHashStartPinLaw" = some m.cls := findClass_of_methodNamed Bd.named
  have hnm := (name_of_methodNamed Bd.named Bd.method).1
  have X0 : Stand p l e room_1 s m #[(.long q0), (.long q1), (.long q2), (.long q3), (.int p4)] below meth c s₁ [] 0 0 := Stand.of_body Bd
  have e0 : s₁.heap = h0 := by rw [← hh, Bd.state]; rfl
  have N0 := Fr.nil n0
  have pre0 : ∀ t, Steps p.tables e below (s₁.setTop (mkF m 0 #[.val (.long q0), .second, .val (.long q1), .second, .val (.long q2), .second, .val (.long q3), .second, .val (.int p4), .unset, .unset, .unset, .unset, .unset, .unset, .unset, .unset, .unset] [])) t → Steps p.tables e below (s₁.setTop (entryFrame m #[(.long q0), (.long q1), (.long q2), (.long q3), (.int p4)] maxLocals)) t := fun t k => castTop (ef_0_xxxxx m q0 q1 q2 q3 p4) k
  have J1 : ∀ t, Steps p.tables e below (s₁.setTop (mkF m 9 #[.val (.long q0), .second, .val (.long q1), .second, .val (.long q2), .second, .val (.long q3), .second, .val (.int p4), .val (.int ((p4 &&& (2147483647 : Int32)) % (5 : Int32))), .unset, .unset, .unset, .unset, .unset, .unset, .unset, .unset] [])) t → Steps p.tables e below (s₁.setTop (entryFrame m #[(.long q0), (.long q1), (.long q2), (.long q3), (.int p4)] maxLocals)) t := fun t k => pre0 t (by
      show Steps p.tables e below (s₁.setTop (mkF m 0 #[.val (.long q0), .second, .val (.long q1), .second, .val (.long q2), .second, .val (.long q3), .second, .val (.int p4), .unset, .unset, .unset, .unset, .unset, .unset, .unset, .unset, .unset] [])) _
      refine XS.iload X0.here hx rfl (hb hby at_0) rfl ?_
      show Steps p.tables e below (s₁.setTop (mkF m 2 #[.val (.long q0), .second, .val (.long q1), .second, .val (.long q2), .second, .val (.long q3), .second, .val (.int p4), .unset, .unset, .unset, .unset, .unset, .unset, .unset, .unset, .unset] [(.int p4)])) _
      refine X0.ldcInt hx hown (mvT hZ (hw _ (List.mem_of_getElem? (i := 0) rfl))) (g := (mkF m 2 #[.val (.long q0), .second, .val (.long q1), .second, .val (.long q2), .second, .val (.long q3), .second, .val (.int p4), .unset, .unset, .unset, .unset, .unset, .unset, .unset, .unset, .unset] [(.int p4)])) rfl (hb hby at_2) _ ?_
      show Steps p.tables e below (s₁.setTop (mkF m 4 #[.val (.long q0), .second, .val (.long q1), .second, .val (.long q2), .second, .val (.long q3), .second, .val (.int p4), .unset, .unset, .unset, .unset, .unset, .unset, .unset, .unset, .unset] [(.int (2147483647 : Int32)), (.int p4)])) _
      refine XS.iand X0.here hx rfl (hb hby at_4) rfl ?_
      show Steps p.tables e below (s₁.setTop (mkF m 5 #[.val (.long q0), .second, .val (.long q1), .second, .val (.long q2), .second, .val (.long q3), .second, .val (.int p4), .unset, .unset, .unset, .unset, .unset, .unset, .unset, .unset, .unset] [(.int (p4 &&& (2147483647 : Int32)))])) _
      refine XS.iconst X0.here hx rfl (hb hby at_5) ?_
      show Steps p.tables e below (s₁.setTop (mkF m 6 #[.val (.long q0), .second, .val (.long q1), .second, .val (.long q2), .second, .val (.long q3), .second, .val (.int p4), .unset, .unset, .unset, .unset, .unset, .unset, .unset, .unset, .unset] [(.int (5 : Int32)), (.int (p4 &&& (2147483647 : Int32)))])) _
      refine iremM X0 hx rfl (hb hby at_6) rfl (by decide) ?_
      show Steps p.tables e below (s₁.setTop (mkF m 7 #[.val (.long q0), .second, .val (.long q1), .second, .val (.long q2), .second, .val (.long q3), .second, .val (.int p4), .unset, .unset, .unset, .unset, .unset, .unset, .unset, .unset, .unset] [(.int ((p4 &&& (2147483647 : Int32)) % (5 : Int32)))])) _
      refine XS.istore X0.here hx rfl (hb hby at_7) rfl (l' := #[.val (.long q0), .second, .val (.long q1), .second, .val (.long q2), .second, .val (.long q3), .second, .val (.int p4), .val (.int ((p4 &&& (2147483647 : Int32)) % (5 : Int32))), .unset, .unset, .unset, .unset, .unset, .unset, .unset, .unset]) rfl ?_
      exact k)
  obtain ⟨jc, hjc⟩ : ∃ z : Int32, z = ((p4 &&& (2147483647 : Int32)) % (5 : Int32)) := ⟨_, rfl⟩
  have J2 : ∀ t, Steps p.tables e below (s₁.setTop (mkF m 9 #[.val (.long q0), .second, .val (.long q1), .second, .val (.long q2), .second, .val (.long q3), .second, .val (.int p4), .val (.int jc), .unset, .unset, .unset, .unset, .unset, .unset, .unset, .unset] [])) t → Steps p.tables e below (s₁.setTop (entryFrame m #[(.long q0), (.long q1), (.long q2), (.long q3), (.int p4)] maxLocals)) t := fun t k => J1 t (by subst hjc; exact k)
  have J3 : ∀ t, Steps p.tables e below (s₁.setTop (mkF m 21 #[.val (.long q0), .second, .val (.long q1), .second, .val (.long q2), .second, .val (.long q3), .second, .val (.int p4), .val (.int jc), .val (.int ((((p4.toUInt32 >>> ((8 : Int32) &&& 31).toUInt32).toInt32) &&& (2147483647 : Int32)) % (5 : Int32))), .unset, .unset, .unset, .unset, .unset, .unset, .unset] [])) t → Steps p.tables e below (s₁.setTop (entryFrame m #[(.long q0), (.long q1), (.long q2), (.long q3), (.int p4)] maxLocals)) t := fun t k => J2 t (by
      show Steps p.tables e below (s₁.setTop (mkF m 9 #[.val (.long q0), .second, .val (.long q1), .second, .val (.long q2), .second, .val (.long q3), .second, .val (.int p4), .val (.int jc), .unset, .unset, .unset, .unset, .unset, .unset, .unset, .unset] [])) _
      refine XS.iload X0.here hx rfl (hb hby at_9) rfl ?_
      show Steps p.tables e below (s₁.setTop (mkF m 11 #[.val (.long q0), .second, .val (.long q1), .second, .val (.long q2), .second, .val (.long q3), .second, .val (.int p4), .val (.int jc), .unset, .unset, .unset, .unset, .unset, .unset, .unset, .unset] [(.int p4)])) _
      refine XS.bipush X0.here hx rfl (hb hby at_11) ?_
      show Steps p.tables e below (s₁.setTop (mkF m 13 #[.val (.long q0), .second, .val (.long q1), .second, .val (.long q2), .second, .val (.long q3), .second, .val (.int p4), .val (.int jc), .unset, .unset, .unset, .unset, .unset, .unset, .unset, .unset] [(.int (8 : Int32)), (.int p4)])) _
      refine XS.iushr X0.here hx rfl (hb hby at_13) rfl ?_
      show Steps p.tables e below (s₁.setTop (mkF m 14 #[.val (.long q0), .second, .val (.long q1), .second, .val (.long q2), .second, .val (.long q3), .second, .val (.int p4), .val (.int jc), .unset, .unset, .unset, .unset, .unset, .unset, .unset, .unset] [(.int ((p4.toUInt32 >>> ((8 : Int32) &&& 31).toUInt32).toInt32))])) _
      refine X0.ldcInt hx hown (mvT hZ (hw _ (List.mem_of_getElem? (i := 0) rfl))) (g := (mkF m 14 #[.val (.long q0), .second, .val (.long q1), .second, .val (.long q2), .second, .val (.long q3), .second, .val (.int p4), .val (.int jc), .unset, .unset, .unset, .unset, .unset, .unset, .unset, .unset] [(.int ((p4.toUInt32 >>> ((8 : Int32) &&& 31).toUInt32).toInt32))])) rfl (hb hby at_14) _ ?_
      show Steps p.tables e below (s₁.setTop (mkF m 16 #[.val (.long q0), .second, .val (.long q1), .second, .val (.long q2), .second, .val (.long q3), .second, .val (.int p4), .val (.int jc), .unset, .unset, .unset, .unset, .unset, .unset, .unset, .unset] [(.int (2147483647 : Int32)), (.int ((p4.toUInt32 >>> ((8 : Int32) &&& 31).toUInt32).toInt32))])) _
      refine XS.iand X0.here hx rfl (hb hby at_16) rfl ?_
      show Steps p.tables e below (s₁.setTop (mkF m 17 #[.val (.long q0), .second, .val (.long q1), .second, .val (.long q2), .second, .val (.long q3), .second, .val (.int p4), .val (.int jc), .unset, .unset, .unset, .unset, .unset, .unset, .unset, .unset] [(.int (((p4.toUInt32 >>> ((8 : Int32) &&& 31).toUInt32).toInt32) &&& (2147483647 : Int32)))])) _
      refine XS.iconst X0.here hx rfl (hb hby at_17) ?_
      show Steps p.tables e below (s₁.setTop (mkF m 18 #[.val (.long q0), .second, .val (.long q1), .second, .val (.long q2), .second, .val (.long q3), .second, .val (.int p4), .val (.int jc), .unset, .unset, .unset, .unset, .unset, .unset, .unset, .unset] [(.int (5 : Int32)), (.int (((p4.toUInt32 >>> ((8 : Int32) &&& 31).toUInt32).toInt32) &&& (2147483647 : Int32)))])) _
      refine iremM X0 hx rfl (hb hby at_18) rfl (by decide) ?_
      show Steps p.tables e below (s₁.setTop (mkF m 19 #[.val (.long q0), .second, .val (.long q1), .second, .val (.long q2), .second, .val (.long q3), .second, .val (.int p4), .val (.int jc), .unset, .unset, .unset, .unset, .unset, .unset, .unset, .unset] [(.int ((((p4.toUInt32 >>> ((8 : Int32) &&& 31).toUInt32).toInt32) &&& (2147483647 : Int32)) % (5 : Int32)))])) _
      refine XS.istore X0.here hx rfl (hb hby at_19) rfl (l' := #[.val (.long q0), .second, .val (.long q1), .second, .val (.long q2), .second, .val (.long q3), .second, .val (.int p4), .val (.int jc), .val (.int ((((p4.toUInt32 >>> ((8 : Int32) &&& 31).toUInt32).toInt32) &&& (2147483647 : Int32)) % (5 : Int32))), .unset, .unset, .unset, .unset, .unset, .unset, .unset]) rfl ?_
      exact k)
  obtain ⟨tc, htc⟩ : ∃ z : Int32, z = ((((p4.toUInt32 >>> ((8 : Int32) &&& 31).toUInt32).toInt32) &&& (2147483647 : Int32)) % (5 : Int32)) := ⟨_, rfl⟩
  have J4 : ∀ t, Steps p.tables e below (s₁.setTop (mkF m 21 #[.val (.long q0), .second, .val (.long q1), .second, .val (.long q2), .second, .val (.long q3), .second, .val (.int p4), .val (.int jc), .val (.int tc), .unset, .unset, .unset, .unset, .unset, .unset, .unset] [])) t → Steps p.tables e below (s₁.setTop (entryFrame m #[(.long q0), (.long q1), (.long q2), (.long q3), (.int p4)] maxLocals)) t := fun t k => J3 t (by subst htc; exact k)
  have J5 : ∀ t, Steps p.tables e below (s₁.setTop (mkF m 28 #[.val (.long q0), .second, .val (.long q1), .second, .val (.long q2), .second, .val (.long q3), .second, .val (.int p4), .val (.int jc), .val (.int tc), .unset, .unset, .unset, .unset, .unset, .unset, .unset] [(.int (((p4.toUInt32 >>> ((16 : Int32) &&& 31).toUInt32).toInt32) &&& (1 : Int32)))])) t → Steps p.tables e below (s₁.setTop (entryFrame m #[(.long q0), (.long q1), (.long q2), (.long q3), (.int p4)] maxLocals)) t := fun t k => J4 t (by
      show Steps p.tables e below (s₁.setTop (mkF m 21 #[.val (.long q0), .second, .val (.long q1), .second, .val (.long q2), .second, .val (.long q3), .second, .val (.int p4), .val (.int jc), .val (.int tc), .unset, .unset, .unset, .unset, .unset, .unset, .unset] [])) _
      refine XS.iload X0.here hx rfl (hb hby at_21) rfl ?_
      show Steps p.tables e below (s₁.setTop (mkF m 23 #[.val (.long q0), .second, .val (.long q1), .second, .val (.long q2), .second, .val (.long q3), .second, .val (.int p4), .val (.int jc), .val (.int tc), .unset, .unset, .unset, .unset, .unset, .unset, .unset] [(.int p4)])) _
      refine XS.bipush X0.here hx rfl (hb hby at_23) ?_
      show Steps p.tables e below (s₁.setTop (mkF m 25 #[.val (.long q0), .second, .val (.long q1), .second, .val (.long q2), .second, .val (.long q3), .second, .val (.int p4), .val (.int jc), .val (.int tc), .unset, .unset, .unset, .unset, .unset, .unset, .unset] [(.int (16 : Int32)), (.int p4)])) _
      refine XS.iushr X0.here hx rfl (hb hby at_25) rfl ?_
      show Steps p.tables e below (s₁.setTop (mkF m 26 #[.val (.long q0), .second, .val (.long q1), .second, .val (.long q2), .second, .val (.long q3), .second, .val (.int p4), .val (.int jc), .val (.int tc), .unset, .unset, .unset, .unset, .unset, .unset, .unset] [(.int ((p4.toUInt32 >>> ((16 : Int32) &&& 31).toUInt32).toInt32))])) _
      refine XS.iconst X0.here hx rfl (hb hby at_26) ?_
      show Steps p.tables e below (s₁.setTop (mkF m 27 #[.val (.long q0), .second, .val (.long q1), .second, .val (.long q2), .second, .val (.long q3), .second, .val (.int p4), .val (.int jc), .val (.int tc), .unset, .unset, .unset, .unset, .unset, .unset, .unset] [(.int (1 : Int32)), (.int ((p4.toUInt32 >>> ((16 : Int32) &&& 31).toUInt32).toInt32))])) _
      refine XS.iand X0.here hx rfl (hb hby at_27) rfl ?_
      exact k)
  obtain ⟨fj, hfj⟩ : ∃ z : Int32, z = (if (((p4.toUInt32 >>> ((16 : Int32) &&& 31).toUInt32).toInt32) &&& (1 : Int32)) = (0 : Int32) then (0 : Int32) else (1 : Int32)) := ⟨_, rfl⟩
  have ps6 : ∀ t, Steps p.tables e below (s₁.setTop (mkF m 36 #[.val (.long q0), .second, .val (.long q1), .second, .val (.long q2), .second, .val (.long q3), .second, .val (.int p4), .val (.int jc), .val (.int tc), .unset, .unset, .unset, .unset, .unset, .unset, .unset] [(.int fj)])) t → Steps p.tables e below (s₁.setTop (mkF m 28 #[.val (.long q0), .second, .val (.long q1), .second, .val (.long q2), .second, .val (.long q3), .second, .val (.int p4), .val (.int jc), .val (.int tc), .unset, .unset, .unset, .unset, .unset, .unset, .unset] [(.int (((p4.toUInt32 >>> ((16 : Int32) &&& 31).toUInt32).toInt32) &&& (1 : Int32)))])) t := by
    intro t k
    by_cases hm28_0 : (((p4.toUInt32 >>> ((16 : Int32) &&& 31).toUInt32).toInt32) &&& (1 : Int32)) = (0 : Int32)
    ·
      show Steps p.tables e below (s₁.setTop (mkF m 28 #[.val (.long q0), .second, .val (.long q1), .second, .val (.long q2), .second, .val (.long q3), .second, .val (.int p4), .val (.int jc), .val (.int tc), .unset, .unset, .unset, .unset, .unset, .unset, .unset] [(.int (((p4.toUInt32 >>> ((16 : Int32) &&& 31).toUInt32).toInt32) &&& (1 : Int32)))])) _
      refine XS.ifYes X0.here hx rfl (pc0 := 28) (pc' := 35) rfl (hb hby at_28) rfl ((if0 _ _).trans (teq hm28_0).1) (by decide) (by decide) ?_
      show Steps p.tables e below (s₁.setTop (mkF m 35 #[.val (.long q0), .second, .val (.long q1), .second, .val (.long q2), .second, .val (.long q3), .second, .val (.int p4), .val (.int jc), .val (.int tc), .unset, .unset, .unset, .unset, .unset, .unset, .unset] [])) _
      refine XS.iconst X0.here hx rfl (hb hby at_35) ?_
      have qfj : fj = (0 : Int32) := by rw [hfj]; simp only [hm28_0, if_true, if_false, reduceIte]
      rw [qfj] at k
      exact k
    ·
      show Steps p.tables e below (s₁.setTop (mkF m 28 #[.val (.long q0), .second, .val (.long q1), .second, .val (.long q2), .second, .val (.long q3), .second, .val (.int p4), .val (.int jc), .val (.int tc), .unset, .unset, .unset, .unset, .unset, .unset, .unset] [(.int (((p4.toUInt32 >>> ((16 : Int32) &&& 31).toUInt32).toInt32) &&& (1 : Int32)))])) _
      refine XS.ifNo X0.here hx rfl (hb hby at_28) rfl ((if0 _ _).trans (feq hm28_0).1) ?_
      show Steps p.tables e below (s₁.setTop (mkF m 31 #[.val (.long q0), .second, .val (.long q1), .second, .val (.long q2), .second, .val (.long q3), .second, .val (.int p4), .val (.int jc), .val (.int tc), .unset, .unset, .unset, .unset, .unset, .unset, .unset] [])) _
      refine XS.iconst X0.here hx rfl (hb hby at_31) ?_
      show Steps p.tables e below (s₁.setTop (mkF m 32 #[.val (.long q0), .second, .val (.long q1), .second, .val (.long q2), .second, .val (.long q3), .second, .val (.int p4), .val (.int jc), .val (.int tc), .unset, .unset, .unset, .unset, .unset, .unset, .unset] [(.int (1 : Int32))])) _
      refine XS.goto X0.here hx rfl (pc0 := 32) (pc' := 36) rfl (hb hby at_32) (by decide) (by decide) ?_
      have qfj : fj = (1 : Int32) := by rw [hfj]; simp only [hm28_0, if_true, if_false, reduceIte]
      rw [qfj] at k
      exact k
  have J7 : ∀ t, Steps p.tables e below (s₁.setTop (mkF m 36 #[.val (.long q0), .second, .val (.long q1), .second, .val (.long q2), .second, .val (.long q3), .second, .val (.int p4), .val (.int jc), .val (.int tc), .unset, .unset, .unset, .unset, .unset, .unset, .unset] [(.int fj)])) t → Steps p.tables e below (s₁.setTop (entryFrame m #[(.long q0), (.long q1), (.long q2), (.long q3), (.int p4)] maxLocals)) t := fun t k => J5 t (ps6 t k)
  have J8 : ∀ t, Steps p.tables e below (s₁.setTop (mkF m 38 #[.val (.long q0), .second, .val (.long q1), .second, .val (.long q2), .second, .val (.long q3), .second, .val (.int p4), .val (.int jc), .val (.int tc), .val (.int fj), .unset, .unset, .unset, .unset, .unset, .unset] [])) t → Steps p.tables e below (s₁.setTop (entryFrame m #[(.long q0), (.long q1), (.long q2), (.long q3), (.int p4)] maxLocals)) t := fun t k => J7 t (by
      show Steps p.tables e below (s₁.setTop (mkF m 36 #[.val (.long q0), .second, .val (.long q1), .second, .val (.long q2), .second, .val (.long q3), .second, .val (.int p4), .val (.int jc), .val (.int tc), .unset, .unset, .unset, .unset, .unset, .unset, .unset] [(.int fj)])) _
      refine XS.istore X0.here hx rfl (hb hby at_36) rfl (l' := #[.val (.long q0), .second, .val (.long q1), .second, .val (.long q2), .second, .val (.long q3), .second, .val (.int p4), .val (.int jc), .val (.int tc), .val (.int fj), .unset, .unset, .unset, .unset, .unset, .unset]) rfl ?_
      exact k)
  obtain ⟨T9, h9, X9, e9, E9, A9, D9, -, st9⟩ := newO X0 hx hZ hown (hw _ (List.mem_of_getElem? (i := 1) rfl)) (hw _ (List.mem_of_getElem? (i := 2) rfl)) (hw _ (List.mem_of_getElem? (i := 3) rfl)) e0 (g := (mkF m 38 #[.val (.long q0), .second, .val (.long q1), .second, .val (.long q2), .second, .val (.long q3), .second, .val (.int p4), .val (.int jc), .val (.int tc), .val (.int fj), .unset, .unset, .unset, .unset, .unset, .unset] [])) rfl (hb hby at_38) (by decide) (by decide)
  obtain ⟨b9, g9⟩ : ∃ z, z = h0.size := ⟨_, rfl⟩
  rw [← g9] at A9 D9 st9
  have J10 : ∀ t, Steps p.tables e below (T9.setTop (mkF m 41 #[.val (.long q0), .second, .val (.long q1), .second, .val (.long q2), .second, .val (.long q3), .second, .val (.int p4), .val (.int jc), .val (.int tc), .val (.int fj), .unset, .unset, .unset, .unset, .unset, .unset] [(.ref b9)])) t → Steps p.tables e below (s₁.setTop (entryFrame m #[(.long q0), (.long q1), (.long q2), (.long q3), (.int p4)] maxLocals)) t := fun t k => J8 t (st9 t k)
  have ge11 : n0 ≤ b9 := Nat.le_trans Z0 (Nat.le_of_eq g9.symm)
  have Z12 : n0 ≤ h9.size := Nat.le_trans Z0 E9.1
  have F9_key0 : Fld Z h9 b9 "com/example/tranche/tranche/io/SipHash" "key0" "J" (.long (0 : Int64)) := D9 (Or.inr (hw _ (List.mem_of_getElem? (i := 11) rfl))) (ty := .long) (by decide)
  have F9_key1 : Fld Z h9 b9 "com/example/tranche/tranche/io/SipHash" "key1" "J" (.long (0 : Int64)) := D9 (Or.inr (hw _ (List.mem_of_getElem? (i := 13) rfl))) (ty := .long) (by decide)
  have F9_v0 : Fld Z h9 b9 "com/example/tranche/tranche/io/SipHash" "v0" "J" (.long (0 : Int64)) := D9 (Or.inl (hw _ (List.mem_of_getElem? (i := 21) rfl))) (ty := .long) (by decide)
  have F9_v1 : Fld Z h9 b9 "com/example/tranche/tranche/io/SipHash" "v1" "J" (.long (0 : Int64)) := D9 (Or.inl (hw _ (List.mem_of_getElem? (i := 24) rfl))) (ty := .long) (by decide)
  have F9_v2 : Fld Z h9 b9 "com/example/tranche/tranche/io/SipHash" "v2" "J" (.long (0 : Int64)) := D9 (Or.inl (hw _ (List.mem_of_getElem? (i := 27) rfl))) (ty := .long) (by decide)
  have F9_v3 : Fld Z h9 b9 "com/example/tranche/tranche/io/SipHash" "v3" "J" (.long (0 : Int64)) := D9 (Or.inl (hw _ (List.mem_of_getElem? (i := 30) rfl))) (ty := .long) (by decide)
  have F9_word : Fld Z h9 b9 "com/example/tranche/tranche/io/SipHash" "word" "J" (.long (0 : Int64)) := D9 (Or.inl (hw _ (List.mem_of_getElem? (i := 32) rfl))) (ty := .long) (by decide)
  have F9_length : Fld Z h9 b9 "com/example/tranche/tranche/io/SipHash" "length" "I" (.int (0 : Int32)) := D9 (Or.inl (hw _ (List.mem_of_getElem? (i := 34) rfl))) (ty := .int) (by decide)
  have J13 : ∀ t, Steps p.tables e below (T9.setTop (mkF m 44 #[.val (.long q0), .second, .val (.long q1), .second, .val (.long q2), .second, .val (.long q3), .second, .val (.int p4), .val (.int jc), .val (.int tc), .val (.int fj), .unset, .unset, .unset, .unset, .unset, .unset] [(.long q1), (.long q0), (.ref b9), (.ref b9)])) t → Steps p.tables e below (s₁.setTop (entryFrame m #[(.long q0), (.long q1), (.long q2), (.long q3), (.int p4)] maxLocals)) t := fun t k => J10 t (by
      show Steps p.tables e below (T9.setTop (mkF m 41 #[.val (.long q0), .second, .val (.long q1), .second, .val (.long q2), .second, .val (.long q3), .second, .val (.int p4), .val (.int jc), .val (.int tc), .val (.int fj), .unset, .unset, .unset, .unset, .unset, .unset] [(.ref b9)])) _
      refine XS.dup X9.here hx rfl (hb hby at_41) rfl rfl ?_
      show Steps p.tables e below (T9.setTop (mkF m 42 #[.val (.long q0), .second, .val (.long q1), .second, .val (.long q2), .second, .val (.long q3), .second, .val (.int p4), .val (.int jc), .val (.int tc), .val (.int fj), .unset, .unset, .unset, .unset, .unset, .unset] [(.ref b9), (.ref b9)])) _
      refine XS.lloadN X9.here hx rfl (hb hby at_42) rfl ?_
      show Steps p.tables e below (T9.setTop (mkF m 43 #[.val (.long q0), .second, .val (.long q1), .second, .val (.long q2), .second, .val (.long q3), .second, .val (.int p4), .val (.int jc), .val (.int tc), .val (.int fj), .unset, .unset, .unset, .unset, .unset, .unset] [(.long q0), (.ref b9), (.ref b9)])) _
      refine XS.lloadN X9.here hx rfl (hb hby at_43) rfl ?_
      exact k)
  obtain ⟨_, _, ⟨T14, L14, k14, n14⟩, -, X14, ⟨Lc14, hQ14, l14, y14, z14⟩, st14⟩ := X9.specialBack hx (y := (⟨"com/example/tranche/tranche/io/SipHash", "<init>", "(JJ)V"⟩ : MethodName)) rfl hown (mvT hZ (hw _ (List.mem_of_getElem? (i := 4) rfl))) (mvT hZ (hw _ (List.mem_of_getElem? (i := 5) rfl))) (mvT hZ (hw _ (List.mem_of_getElem? (i := 6) rfl))) (by decide) (backOf (W := 1) (rm1 l Z a0 hw [] b9 q0 q1 (.long (0 : Int64)) (.long (0 : Int64)) (0 : Int64) (0 : Int64) (0 : Int64) (0 : Int64) (0 : Int64) (0 : Int32) h9 n0 Z12 A9 ge11 F9_key0 F9_key1 F9_v0 F9_v1 F9_v2 F9_v3 F9_word F9_length) hZ (hw _ (List.mem_of_getElem? (i := 6) rfl)) (hw _ (List.mem_of_getElem? (i := 3) rfl)) (by decide) (by decide)) (g := (mkF m 44 #[.val (.long q0), .second, .val (.long q1), .second, .val (.long q2), .second, .val (.long q3), .second, .val (.int p4), .val (.int jc), .val (.int tc), .val (.int fj), .unset, .unset, .unset, .unset, .unset, .unset] [(.long q1), (.long q0), (.ref b9), (.ref b9)])) rfl (by rw [hml]; rfl) (Steps.refl _) (a := b9) (argsL := [(.long q0), (.long q1)]) (rest := [(.ref b9)]) (lenOf pd_4 rfl) rfl (by show 2 * 0 + _ ≤ _; exact Nat.le_of_eq rfl) (hb hby at_44) (fun _ _ => ⟨rfl, e9, (by decide : 1 + 0 ≤ _), (by decide : 8 + 0 ≤ _)⟩)
  dsimp only [Pt.U, Pt.locs, Pt.cells, Pt.slots] at X14 l14 y14 z14 st14 hQ14
  subst l14 y14 z14
  obtain ⟨rfl, Nq14, K14, p14_1, p14_2, p14_3, p14_4, p14_5, p14_6, p14_7, p14_8, p14_9⟩ := hQ14
  have N15 := Fr.app N0 Nq14
  have J16 : ∀ t, Steps p.tables e below (T14.setTop (mkF m 47 #[.val (.long q0), .second, .val (.long q1), .second, .val (.long q2), .second, .val (.long q3), .second, .val (.int p4), .val (.int jc), .val (.int tc), .val (.int fj), .unset, .unset, .unset, .unset, .unset, .unset] [(.ref b9)])) t → Steps p.tables e below (s₁.setTop (entryFrame m #[(.long q0), (.long q1), (.long q2), (.long q3), (.int p4)] maxLocals)) t := fun t k => J13 t (st14.trans k)
  have Z17 : n0 ≤ T14.heap.size := Nat.le_trans Z12 K14.1
  have J18 : ∀ t, Steps p.tables e below (T14.setTop (mkF m 49 #[.val (.long q0), .second, .val (.long q1), .second, .val (.long q2), .second, .val (.long q3), .second, .val (.int p4), .val (.int jc), .val (.int tc), .val (.int fj), .val (.ref b9), .unset, .unset, .unset, .unset, .unset] [])) t → Steps p.tables e below (s₁.setTop (entryFrame m #[(.long q0), (.long q1), (.long q2), (.long q3), (.int p4)] maxLocals)) t := fun t k => J16 t (by
      show Steps p.tables e below (T14.setTop (mkF m 47 #[.val (.long q0), .second, .val (.long q1), .second, .val (.long q2), .second, .val (.long q3), .second, .val (.int p4), .val (.int jc), .val (.int tc), .val (.int fj), .unset, .unset, .unset, .unset, .unset, .unset] [(.ref b9)])) _
      refine XS.astore X14.here hx rfl (hb hby at_47) rfl rfl (l' := #[.val (.long q0), .second, .val (.long q1), .second, .val (.long q2), .second, .val (.long q3), .second, .val (.int p4), .val (.int jc), .val (.int tc), .val (.int fj), .val (.ref b9), .unset, .unset, .unset, .unset, .unset]) rfl ?_
      exact k)
  obtain ⟨T19, h19, X19, e19, E19, A19, D19, -, st19⟩ := newO X14 hx hZ hown (hw _ (List.mem_of_getElem? (i := 1) rfl)) (hw _ (List.mem_of_getElem? (i := 2) rfl)) (hw _ (List.mem_of_getElem? (i := 3) rfl)) rfl (g := (mkF m 49 #[.val (.long q0), .second, .val (.long q1), .second, .val (.long q2), .second, .val (.long q3), .second, .val (.int p4), .val (.int jc), .val (.int tc), .val (.int fj), .val (.ref b9), .unset, .unset, .unset, .unset, .unset] [])) rfl (hb hby at_49) (by decide) (by decide)
  obtain ⟨b19, g19⟩ : ∃ z, z = T14.heap.size := ⟨_, rfl⟩
  rw [← g19] at A19 D19 st19
  have J20 : ∀ t, Steps p.tables e below (T19.setTop (mkF m 52 #[.val (.long q0), .second, .val (.long q1), .second, .val (.long q2), .second, .val (.long q3), .second, .val (.int p4), .val (.int jc), .val (.int tc), .val (.int fj), .val (.ref b9), .unset, .unset, .unset, .unset, .unset] [(.ref b19)])) t → Steps p.tables e below (s₁.setTop (entryFrame m #[(.long q0), (.long q1), (.long q2), (.long q3), (.int p4)] maxLocals)) t := fun t k => J18 t (st19 t k)
  have ne21 : b9 ≠ b19 := Nat.ne_of_lt (Nat.lt_of_lt_of_le p14_1.lt (Nat.le_of_eq g19.symm))
  have ge22 : n0 ≤ b19 := Nat.le_trans Z17 (Nat.le_of_eq g19.symm)
  have Z23 : n0 ≤ h19.size := Nat.le_trans Z17 E19.1
  have F19_key0 : Fld Z h19 b19 "com/example/tranche/tranche/io/SipHash" "key0" "J" (.long (0 : Int64)) := D19 (Or.inr (hw _ (List.mem_of_getElem? (i := 11) rfl))) (ty := .long) (by decide)
  have F19_key1 : Fld Z h19 b19 "com/example/tranche/tranche/io/SipHash" "key1" "J" (.long (0 : Int64)) := D19 (Or.inr (hw _ (List.mem_of_getElem? (i := 13) rfl))) (ty := .long) (by decide)
  have F19_v0 : Fld Z h19 b19 "com/example/tranche/tranche/io/SipHash" "v0" "J" (.long (0 : Int64)) := D19 (Or.inl (hw _ (List.mem_of_getElem? (i := 21) rfl))) (ty := .long) (by decide)
  have F19_v1 : Fld Z h19 b19 "com/example/tranche/tranche/io/SipHash" "v1" "J" (.long (0 : Int64)) := D19 (Or.inl (hw _ (List.mem_of_getElem? (i := 24) rfl))) (ty := .long) (by decide)
  have F19_v2 : Fld Z h19 b19 "com/example/tranche/tranche/io/SipHash" "v2" "J" (.long (0 : Int64)) := D19 (Or.inl (hw _ (List.mem_of_getElem? (i := 27) rfl))) (ty := .long) (by decide)
  have F19_v3 : Fld Z h19 b19 "com/example/tranche/tranche/io/SipHash" "v3" "J" (.long (0 : Int64)) := D19 (Or.inl (hw _ (List.mem_of_getElem? (i := 30) rfl))) (ty := .long) (by decide)
  have F19_word : Fld Z h19 b19 "com/example/tranche/tranche/io/SipHash" "word" "J" (.long (0 : Int64)) := D19 (Or.inl (hw _ (List.mem_of_getElem? (i := 32) rfl))) (ty := .long) (by decide)
  have F19_length : Fld Z h19 b19 "com/example/tranche/tranche/io/SipHash" "length" "I" (.int (0 : Int32)) := D19 (Or.inl (hw _ (List.mem_of_getElem? (i := 34) rfl))) (ty := .int) (by decide)
  have J24 : ∀ t, Steps p.tables e below (T19.setTop (mkF m 55 #[.val (.long q0), .second, .val (.long q1), .second, .val (.long q2), .second, .val (.long q3), .second, .val (.int p4), .val (.int jc), .val (.int tc), .val (.int fj), .val (.ref b9), .unset, .unset, .unset, .unset, .unset] [(.long q1), (.long q0), (.ref b19), (.ref b19)])) t → Steps p.tables e below (s₁.setTop (entryFrame m #[(.long q0), (.long q1), (.long q2), (.long q3), (.int p4)] maxLocals)) t := fun t k => J20 t (by
      show Steps p.tables e below (T19.setTop (mkF m 52 #[.val (.long q0), .second, .val (.long q1), .second, .val (.long q2), .second, .val (.long q3), .second, .val (.int p4), .val (.int jc), .val (.int tc), .val (.int fj), .val (.ref b9), .unset, .unset, .unset, .unset, .unset] [(.ref b19)])) _
      refine XS.dup X19.here hx rfl (hb hby at_52) rfl rfl ?_
      show Steps p.tables e below (T19.setTop (mkF m 53 #[.val (.long q0), .second, .val (.long q1), .second, .val (.long q2), .second, .val (.long q3), .second, .val (.int p4), .val (.int jc), .val (.int tc), .val (.int fj), .val (.ref b9), .unset, .unset, .unset, .unset, .unset] [(.ref b19), (.ref b19)])) _
      refine XS.lloadN X19.here hx rfl (hb hby at_53) rfl ?_
      show Steps p.tables e below (T19.setTop (mkF m 54 #[.val (.long q0), .second, .val (.long q1), .second, .val (.long q2), .second, .val (.long q3), .second, .val (.int p4), .val (.int jc), .val (.int tc), .val (.int fj), .val (.ref b9), .unset, .unset, .unset, .unset, .unset] [(.long q0), (.ref b19), (.ref b19)])) _
      refine XS.lloadN X19.here hx rfl (hb hby at_54) rfl ?_
      exact k)
  obtain ⟨_, _, ⟨T25, L25, k25, n25⟩, -, X25, ⟨Lc25, hQ25, l25, y25, z25⟩, st25⟩ := X19.specialBack hx (y := (⟨"com/example/tranche/tranche/io/SipHash", "<init>", "(JJ)V"⟩ : MethodName)) rfl hown (mvT hZ (hw _ (List.mem_of_getElem? (i := 4) rfl))) (mvT hZ (hw _ (List.mem_of_getElem? (i := 5) rfl))) (mvT hZ (hw _ (List.mem_of_getElem? (i := 6) rfl))) (by decide) (backOf (W := 1) (rm1 l Z a0 hw [] b19 q0 q1 (.long (0 : Int64)) (.long (0 : Int64)) (0 : Int64) (0 : Int64) (0 : Int64) (0 : Int64) (0 : Int64) (0 : Int32) h19 n0 Z23 A19 ge22 F19_key0 F19_key1 F19_v0 F19_v1 F19_v2 F19_v3 F19_word F19_length) hZ (hw _ (List.mem_of_getElem? (i := 6) rfl)) (hw _ (List.mem_of_getElem? (i := 3) rfl)) (by decide) (by decide)) (g := (mkF m 55 #[.val (.long q0), .second, .val (.long q1), .second, .val (.long q2), .second, .val (.long q3), .second, .val (.int p4), .val (.int jc), .val (.int tc), .val (.int fj), .val (.ref b9), .unset, .unset, .unset, .unset, .unset] [(.long q1), (.long q0), (.ref b19), (.ref b19)])) rfl (by rw [hml]; rfl) (Steps.refl _) (a := b19) (argsL := [(.long q0), (.long q1)]) (rest := [(.ref b19)]) (lenOf pd_4 rfl) rfl (by show 2 * 0 + _ ≤ _; exact Nat.le_of_eq rfl) (hb hby at_55) (fun _ _ => ⟨rfl, e19, (by decide : 2 + 0 ≤ _), (by decide : 16 + 0 ≤ _)⟩)
  dsimp only [Pt.U, Pt.locs, Pt.cells, Pt.slots] at X25 l25 y25 z25 st25 hQ25
  subst l25 y25 z25
  obtain ⟨rfl, Nq25, K25, p25_1, p25_2, p25_3, p25_4, p25_5, p25_6, p25_7, p25_8, p25_9⟩ := hQ25
  have N26 := Fr.app N15 Nq25
  have J27 : ∀ t, Steps p.tables e below (T25.setTop (mkF m 58 #[.val (.long q0), .second, .val (.long q1), .second, .val (.long q2), .second, .val (.long q3), .second, .val (.int p4), .val (.int jc), .val (.int tc), .val (.int fj), .val (.ref b9), .unset, .unset, .unset, .unset, .unset] [(.ref b19)])) t → Steps p.tables e below (s₁.setTop (entryFrame m #[(.long q0), (.long q1), (.long q2), (.long q3), (.int p4)] maxLocals)) t := fun t k => J24 t (st25.trans k)
  have Z28 : n0 ≤ T25.heap.size := Nat.le_trans Z23 K25.1
  have J29 : ∀ t, Steps p.tables e below (T25.setTop (mkF m 62 #[.val (.long q0), .second, .val (.long q1), .second, .val (.long q2), .second, .val (.long q3), .second, .val (.int p4), .val (.int jc), .val (.int tc), .val (.int fj), .val (.ref b9), .val (.ref b19), .unset, .unset, .unset, .unset] [(.ref b9)])) t → Steps p.tables e below (s₁.setTop (entryFrame m #[(.long q0), (.long q1), (.long q2), (.long q3), (.int p4)] maxLocals)) t := fun t k => J27 t (by
      show Steps p.tables e below (T25.setTop (mkF m 58 #[.val (.long q0), .second, .val (.long q1), .second, .val (.long q2), .second, .val (.long q3), .second, .val (.int p4), .val (.int jc), .val (.int tc), .val (.int fj), .val (.ref b9), .unset, .unset, .unset, .unset, .unset] [(.ref b19)])) _
      refine XS.astore X25.here hx rfl (hb hby at_58) rfl rfl (l' := #[.val (.long q0), .second, .val (.long q1), .second, .val (.long q2), .second, .val (.long q3), .second, .val (.int p4), .val (.int jc), .val (.int tc), .val (.int fj), .val (.ref b9), .val (.ref b19), .unset, .unset, .unset, .unset]) rfl ?_
      show Steps p.tables e below (T25.setTop (mkF m 60 #[.val (.long q0), .second, .val (.long q1), .second, .val (.long q2), .second, .val (.long q3), .second, .val (.int p4), .val (.int jc), .val (.int tc), .val (.int fj), .val (.ref b9), .val (.ref b19), .unset, .unset, .unset, .unset] [])) _
      refine XS.aload X25.here hx rfl (hb hby at_60) rfl rfl ?_
      exact k)
  have f30 := p14_1.ext E19
  have f31 := f30.keep K25
  have f32 := p14_2.ext E19
  have f33 := f32.keep K25 (ninS ne21 nin0)
  have f34 := p14_3.ext E19
  have f35 := f34.keep K25 (ninS ne21 nin0)
  have f36 := p14_4.ext E19
  have f37 := f36.keep K25 (ninS ne21 nin0)
  have f38 := p14_5.ext E19
  have f39 := f38.keep K25 (ninS ne21 nin0)
  have f40 := p14_6.ext E19
  have f41 := f40.keep K25 (ninS ne21 nin0)
  have f42 := p14_7.ext E19
  have f43 := f42.keep K25 (ninS ne21 nin0)
  have f44 := p14_8.ext E19
  have f45 := f44.keep K25 (ninS ne21 nin0)
  have f46 := p14_9.ext E19
  have f47 := f46.keep K25 (ninS ne21 nin0)
  obtain ⟨cq48, kq48, q48a, q48b, q48c⟩ := isOf hZ rfl f31
  obtain ⟨_, _, ⟨T48, L48, k48, n48⟩, -, X48, ⟨Lc48, hQ48, l48, y48, z48⟩, st48⟩ := X25.virtualBack hx (y := (⟨"com/example/tranche/tranche/io/SipHash", "start", "()V"⟩ : MethodName)) (z := (⟨"com/example/tranche/tranche/io/SipHash", "start", "()V"⟩ : MethodName)) hown (mvT hZ (hw _ (List.mem_of_getElem? (i := 14) rfl))) (mvT hZ (hw _ (List.mem_of_getElem? (i := 15) rfl))) (notFace_of_selects (args := #[]) (mvT hZ (hw _ (List.mem_of_getElem? (i := 17) rfl)))) (mvT hZ (hw _ (List.mem_of_getElem? (i := 17) rfl))) (mvT hZ (hw _ (List.mem_of_getElem? (i := 16) rfl))) (by decide) (backOf (W := 0) (rm3 l Z a0 hw [] b9 q0 q1 (0 : Int64) (0 : Int64) (0 : Int64) (0 : Int64) (0 : Int64) (0 : Int32) T25.heap n0 Z28 f31 ge11 f33 f35 f37 f39 f41 f43 f45 f47) hZ (hw _ (List.mem_of_getElem? (i := 18) rfl)) (hw _ (List.mem_of_getElem? (i := 3) rfl)) (by decide) (by decide)) q48a q48c (g := (mkF m 62 #[.val (.long q0), .second, .val (.long q1), .second, .val (.long q2), .second, .val (.long q3), .second, .val (.int p4), .val (.int jc), .val (.int tc), .val (.int fj), .val (.ref b9), .val (.ref b19), .unset, .unset, .unset, .unset] [(.ref b9)])) rfl (by rw [hml]; rfl) (Steps.refl _) (argsL := []) (rest := []) (lenOf pd_1 rfl) rfl (by show 2 * 0 + _ ≤ _; exact Nat.le_of_eq rfl) (hb hby at_62) (fun _ _ => ⟨rfl, rfl, (by decide : 2 + 0 ≤ _), (by decide : 16 + 0 ≤ _)⟩)
  dsimp only [Pt.U, Pt.locs, Pt.cells, Pt.slots] at X48 l48 y48 z48 st48 hQ48
  subst l48 y48 z48
  obtain ⟨z0_48, z1_48, z2_48, z3_48, z4_48, z5_48, rfl, Nq48, K48, p48_1, p48_2, p48_3, p48_4, p48_5, p48_6, p48_7, p48_8, p48_9, p48_10⟩ := hQ48
  have N49 := Fr.app N26 Nq48
  have J50 : ∀ t, Steps p.tables e below (T48.setTop (mkF m 65 #[.val (.long q0), .second, .val (.long q1), .second, .val (.long q2), .second, .val (.long q3), .second, .val (.int p4), .val (.int jc), .val (.int tc), .val (.int fj), .val (.ref b9), .val (.ref b19), .unset, .unset, .unset, .unset] [])) t → Steps p.tables e below (s₁.setTop (entryFrame m #[(.long q0), (.long q1), (.long q2), (.long q3), (.int p4)] maxLocals)) t := fun t k => J29 t (st48.trans k)
  have Z51 : n0 ≤ T48.heap.size := Nat.le_trans Z28 K48.1
  have J52 : ∀ t, Steps p.tables e below (T48.setTop (mkF m 71 #[.val (.long q0), .second, .val (.long q1), .second, .val (.long q2), .second, .val (.long q3), .second, .val (.int p4), .val (.int jc), .val (.int tc), .val (.int fj), .val (.ref b9), .val (.ref b19), .unset, .unset, .unset, .unset] [(.int jc), (.long q2), (.ref b9)])) t → Steps p.tables e below (s₁.setTop (entryFrame m #[(.long q0), (.long q1), (.long q2), (.long q3), (.int p4)] maxLocals)) t := fun t k => J50 t (by
      show Steps p.tables e below (T48.setTop (mkF m 65 #[.val (.long q0), .second, .val (.long q1), .second, .val (.long q2), .second, .val (.long q3), .second, .val (.int p4), .val (.int jc), .val (.int tc), .val (.int fj), .val (.ref b9), .val (.ref b19), .unset, .unset, .unset, .unset] [])) _
      refine XS.aload X48.here hx rfl (hb hby at_65) rfl rfl ?_
      show Steps p.tables e below (T48.setTop (mkF m 67 #[.val (.long q0), .second, .val (.long q1), .second, .val (.long q2), .second, .val (.long q3), .second, .val (.int p4), .val (.int jc), .val (.int tc), .val (.int fj), .val (.ref b9), .val (.ref b19), .unset, .unset, .unset, .unset] [(.ref b9)])) _
      refine XS.lload X48.here hx rfl (hb hby at_67) rfl ?_
      show Steps p.tables e below (T48.setTop (mkF m 69 #[.val (.long q0), .second, .val (.long q1), .second, .val (.long q2), .second, .val (.long q3), .second, .val (.int p4), .val (.int jc), .val (.int tc), .val (.int fj), .val (.ref b9), .val (.ref b19), .unset, .unset, .unset, .unset] [(.long q2), (.ref b9)])) _
      refine XS.iload X48.here hx rfl (hb hby at_69) rfl ?_
      exact k)
  obtain ⟨_, _, ⟨T53, L53, k53, n53⟩, -, X53, ⟨Lc53, hQ53, l53, y53, z53⟩, st53⟩ := Jvm.LawKit.callS X48 hx (y := (⟨"com/example/tranche/tranche/io/SipHashStartPinLaw", "feed", "(Lcom/example/tranche/tranche/io/SipHash;JI)V"⟩ : MethodName)) hown (mvT hZ (hw _ (List.mem_of_getElem? (i := 35) rfl))) (mvT hZ (hw _ (List.mem_of_getElem? (i := 36) rfl))) (mvT hZ (hw _ (List.mem_of_getElem? (i := 37) rfl))) (mvT hZ (hw _ (List.mem_of_getElem? (i := 38) rfl))) (by decide) (backOf (W := 0) (rm4 l Z a0 hw [] b9 q2 jc q0 q1 z0_48 z1_48 z2_48 z3_48 z4_48 z5_48 T48.heap n0 Z51 p48_1 ge11 p48_2 p48_3 p48_4 p48_5 p48_6 p48_7 p48_8 p48_9) hZ (hw _ (List.mem_of_getElem? (i := 38) rfl)) (hw _ (List.mem_of_getElem? (i := 37) rfl)) (by decide) (by decide)) (g := (mkF m 71 #[.val (.long q0), .second, .val (.long q1), .second, .val (.long q2), .second, .val (.long q3), .second, .val (.int p4), .val (.int jc), .val (.int tc), .val (.int fj), .val (.ref b9), .val (.ref b19), .unset, .unset, .unset, .unset] [(.int jc), (.long q2), (.ref b9)])) rfl (by rw [hml]; rfl) (argsL := [(.ref b9), (.long q2), (.int jc)]) (rest := []) (lenOf pd_5 rfl) rfl (by show 2 * 0 + _ ≤ _; exact Nat.le_of_eq rfl) (hb hby at_71) (fun _ _ => ⟨rfl, rfl, (by decide : 2 + 0 ≤ _), (by decide : 16 + 0 ≤ _)⟩)
  dsimp only [Pt.U, Pt.locs, Pt.cells, Pt.slots] at X53 l53 y53 z53 st53 hQ53
  subst l53 y53 z53
  obtain ⟨z0_53, z1_53, z2_53, z3_53, z4_53, z5_53, rfl, Nq53, K53, p53_1, p53_2, p53_3, p53_4, p53_5, p53_6, p53_7, p53_8, p53_9, p53_10⟩ := hQ53
  have N54 := Fr.app N49 Nq53
  have J55 : ∀ t, Steps p.tables e below (T53.setTop (mkF m 74 #[.val (.long q0), .second, .val (.long q1), .second, .val (.long q2), .second, .val (.long q3), .second, .val (.int p4), .val (.int jc), .val (.int tc), .val (.int fj), .val (.ref b9), .val (.ref b19), .unset, .unset, .unset, .unset] [])) t → Steps p.tables e below (s₁.setTop (entryFrame m #[(.long q0), (.long q1), (.long q2), (.long q3), (.int p4)] maxLocals)) t := fun t k => J52 t (st53 t k)
  have Z56 : n0 ≤ T53.heap.size := Nat.le_trans Z51 K53.1
  have J57 : ∀ t, Steps p.tables e below (T53.setTop (mkF m 76 #[.val (.long q0), .second, .val (.long q1), .second, .val (.long q2), .second, .val (.long q3), .second, .val (.int p4), .val (.int jc), .val (.int tc), .val (.int fj), .val (.ref b9), .val (.ref b19), .unset, .unset, .unset, .unset] [(.int fj)])) t → Steps p.tables e below (s₁.setTop (entryFrame m #[(.long q0), (.long q1), (.long q2), (.long q3), (.int p4)] maxLocals)) t := fun t k => J55 t (by
      show Steps p.tables e below (T53.setTop (mkF m 74 #[.val (.long q0), .second, .val (.long q1), .second, .val (.long q2), .second, .val (.long q3), .second, .val (.int p4), .val (.int jc), .val (.int tc), .val (.int fj), .val (.ref b9), .val (.ref b19), .unset, .unset, .unset, .unset] [])) _
      refine XS.iload X53.here hx rfl (hb hby at_74) rfl ?_
      exact k)
  have mg66 : ∃ (T' : State) (h' : Heap) (locs' : List Loc) (z0 : Int64) (z1 : Int64) (z2 : Int64) (z3 : Int64) (z4 : Int64) (z5 : Int32), Stand p l e room_1 s m #[(.long q0), (.long q1), (.long q2), (.long q3), (.int p4)] below meth c T' locs' 2 16 ∧ T'.heap = h' ∧ Fr n0 locs' ∧ n0 ≤ h'.size ∧ Keep T53.heap h' [b9] ∧ (Exa Z h' b9 "com/example/tranche/tranche/io/SipHash") ∧ (Fld Z h' b9 "com/example/tranche/tranche/io/SipHash" "key0" "J" (.long q0)) ∧ (Fld Z h' b9 "com/example/tranche/tranche/io/SipHash" "key1" "J" (.long q1)) ∧ (Fld Z h' b9 "com/example/tranche/tranche/io/SipHash" "v0" "J" (.long z0)) ∧ (Fld Z h' b9 "com/example/tranche/tranche/io/SipHash" "v1" "J" (.long z1)) ∧ (Fld Z h' b9 "com/example/tranche/tranche/io/SipHash" "v2" "J" (.long z2)) ∧ (Fld Z h' b9 "com/example/tranche/tranche/io/SipHash" "v3" "J" (.long z3)) ∧ (Fld Z h' b9 "com/example/tranche/tranche/io/SipHash" "word" "J" (.long z4)) ∧ (Fld Z h' b9 "com/example/tranche/tranche/io/SipHash" "length" "I" (.int z5)) ∧ ∀ t, Steps p.tables e below (T'.setTop (mkF m 85 #[.val (.long q0), .second, .val (.long q1), .second, .val (.long q2), .second, .val (.long q3), .second, .val (.int p4), .val (.int jc), .val (.int tc), .val (.int fj), .val (.ref b9), .val (.ref b19), .unset, .unset, .unset, .unset] [])) t → Steps p.tables e below (T53.setTop (mkF m 76 #[.val (.long q0), .second, .val (.long q1), .second, .val (.long q2), .second, .val (.long q3), .second, .val (.int p4), .val (.int jc), .val (.int tc), .val (.int fj), .val (.ref b9), .val (.ref b19), .unset, .unset, .unset, .unset] [(.int fj)])) t := by
    by_cases hq : fj = (0 : Int32)
    ·
      have J58 : ∀ t, Steps p.tables e below (T53.setTop (mkF m 85 #[.val (.long q0), .second, .val (.long q1), .second, .val (.long q2), .second, .val (.long q3), .second, .val (.int p4), .val (.int jc), .val (.int tc), .val (.int fj), .val (.ref b9), .val (.ref b19), .unset, .unset, .unset, .unset] [])) t → Steps p.tables e below (T53.setTop (mkF m 76 #[.val (.long q0), .second, .val (.long q1), .second, .val (.long q2), .second, .val (.long q3), .second, .val (.int p4), .val (.int jc), .val (.int tc), .val (.int fj), .val (.ref b9), .val (.ref b19), .unset, .unset, .unset, .unset] [(.int fj)])) t := fun t k => id (by
          show Steps p.tables e below (T53.setTop (mkF m 76 #[.val (.long q0), .second, .val (.long q1), .second, .val (.long q2), .second, .val (.long q3), .second, .val (.int p4), .val (.int jc), .val (.int tc), .val (.int fj), .val (.ref b9), .val (.ref b19), .unset, .unset, .unset, .unset] [(.int fj)])) _
          refine XS.ifYes X53.here hx rfl (pc0 := 76) (pc' := 85) rfl (hb hby at_76) rfl ((if0 _ _).trans (teq hq).1) (by decide) (by decide) ?_
          exact k)
      exact ⟨T53, T53.heap, _, z0_53, z1_53, z2_53, z3_53, z4_53, z5_53, X53, rfl, N54, Z56, (Keep.refl T53.heap [b9]), p53_1, p53_2, p53_3, p53_4, p53_5, p53_6, p53_7, p53_8, p53_9, J58⟩
    ·
      have J59 : ∀ t, Steps p.tables e below (T53.setTop (mkF m 81 #[.val (.long q0), .second, .val (.long q1), .second, .val (.long q2), .second, .val (.long q3), .second, .val (.int p4), .val (.int jc), .val (.int tc), .val (.int fj), .val (.ref b9), .val (.ref b19), .unset, .unset, .unset, .unset] [(.ref b9)])) t → Steps p.tables e below (T53.setTop (mkF m 76 #[.val (.long q0), .second, .val (.long q1), .second, .val (.long q2), .second, .val (.long q3), .second, .val (.int p4), .val (.int jc), .val (.int tc), .val (.int fj), .val (.ref b9), .val (.ref b19), .unset, .unset, .unset, .unset] [(.int fj)])) t := fun t k => id (by
          show Steps p.tables e below (T53.setTop (mkF m 76 #[.val (.long q0), .second, .val (.long q1), .second, .val (.long q2), .second, .val (.long q3), .second, .val (.int p4), .val (.int jc), .val (.int tc), .val (.int fj), .val (.ref b9), .val (.ref b19), .unset, .unset, .unset, .unset] [(.int fj)])) _
          refine XS.ifNo X53.here hx rfl (hb hby at_76) rfl ((if0 _ _).trans (feq hq).1) ?_
          show Steps p.tables e below (T53.setTop (mkF m 79 #[.val (.long q0), .second, .val (.long q1), .second, .val (.long q2), .second, .val (.long q3), .second, .val (.int p4), .val (.int jc), .val (.int tc), .val (.int fj), .val (.ref b9), .val (.ref b19), .unset, .unset, .unset, .unset] [])) _
          refine XS.aload X53.here hx rfl (hb hby at_79) rfl rfl ?_
          exact k)
      obtain ⟨cq60, kq60, q60a, q60b, q60c⟩ := isOf hZ rfl p53_1
      obtain ⟨_, _, ⟨T60, L60, k60, n60⟩, -, X60, ⟨Lc60, hQ60, l60, y60, z60⟩, st60⟩ := X53.virtualBack hx (y := (⟨"com/example/tranche/tranche/io/SipHash", "finish", "()J"⟩ : MethodName)) (z := (⟨"com/example/tranche/tranche/io/SipHash", "finish", "()J"⟩ : MethodName)) hown (mvT hZ (hw _ (List.mem_of_getElem? (i := 44) rfl))) (mvT hZ (hw _ (List.mem_of_getElem? (i := 45) rfl))) (notFace_of_selects (args := #[]) (mvT hZ (hw _ (List.mem_of_getElem? (i := 47) rfl)))) (mvT hZ (hw _ (List.mem_of_getElem? (i := 47) rfl))) (mvT hZ (hw _ (List.mem_of_getElem? (i := 46) rfl))) (by decide) (backOf (W := 0) (rm6 l Z a0 hw [] b9 q0 q1 z0_53 z1_53 z2_53 z3_53 z4_53 z5_53 T53.heap n0 Z56 p53_1 ge11 p53_2 p53_3 p53_4 p53_5 p53_6 p53_7 p53_8 p53_9) hZ (hw _ (List.mem_of_getElem? (i := 48) rfl)) (hw _ (List.mem_of_getElem? (i := 3) rfl)) (by decide) (by decide)) q60a q60c (g := (mkF m 81 #[.val (.long q0), .second, .val (.long q1), .second, .val (.long q2), .second, .val (.long q3), .second, .val (.int p4), .val (.int jc), .val (.int tc), .val (.int fj), .val (.ref b9), .val (.ref b19), .unset, .unset, .unset, .unset] [(.ref b9)])) rfl (by rw [hml]; rfl) (Steps.refl _) (argsL := []) (rest := []) (lenOf pd_6 rfl) rfl (by show 2 * 0 + _ ≤ _; exact Nat.le_of_eq rfl) (hb hby at_81) (fun _ _ => ⟨rfl, rfl, (by decide : 2 + 0 ≤ _), (by decide : 16 + 0 ≤ _)⟩)
      dsimp only [Pt.U, Pt.locs, Pt.cells, Pt.slots] at X60 l60 y60 z60 st60 hQ60
      subst l60 y60 z60
      obtain ⟨z0_60, z1_60, z2_60, z3_60, z4_60, z5_60, rfl, Nq60, K60, p60_1, p60_2, p60_3, p60_4, p60_5, p60_6, p60_7, p60_8, p60_9, p60_10⟩ := hQ60
      have N61 := Fr.app N54 Nq60
      have J62 : ∀ t, Steps p.tables e below (T60.setTop (mkF m 84 #[.val (.long q0), .second, .val (.long q1), .second, .val (.long q2), .second, .val (.long q3), .second, .val (.int p4), .val (.int jc), .val (.int tc), .val (.int fj), .val (.ref b9), .val (.ref b19), .unset, .unset, .unset, .unset] [(.long (own_out ((z0_60, z1_60, z2_60, z3_60, z4_60, z5_60) : SS)))])) t → Steps p.tables e below (T53.setTop (mkF m 76 #[.val (.long q0), .second, .val (.long q1), .second, .val (.long q2), .second, .val (.long q3), .second, .val (.int p4), .val (.int jc), .val (.int tc), .val (.int fj), .val (.ref b9), .val (.ref b19), .unset, .unset, .unset, .unset] [(.int fj)])) t := fun t k => J59 t (st60.trans k)
      have Z63 : n0 ≤ T60.heap.size := Nat.le_trans Z56 K60.1
      have KK64 : Keep T53.heap T60.heap [b9] := (Keep.refl T53.heap [b9]).trans K60 (allS (Or.inl (List.mem_of_getElem? (i := 0) rfl)) all0)
      have J65 : ∀ t, Steps p.tables e below (T60.setTop (mkF m 85 #[.val (.long q0), .second, .val (.long q1), .second, .val (.long q2), .second, .val (.long q3), .second, .val (.int p4), .val (.int jc), .val (.int tc), .val (.int fj), .val (.ref b9), .val (.ref b19), .unset, .unset, .unset, .unset] [])) t → Steps p.tables e below (T53.setTop (mkF m 76 #[.val (.long q0), .second, .val (.long q1), .second, .val (.long q2), .second, .val (.long q3), .second, .val (.int p4), .val (.int jc), .val (.int tc), .val (.int fj), .val (.ref b9), .val (.ref b19), .unset, .unset, .unset, .unset] [(.int fj)])) t := fun t k => J62 t (by
          show Steps p.tables e below (T60.setTop (mkF m 84 #[.val (.long q0), .second, .val (.long q1), .second, .val (.long q2), .second, .val (.long q3), .second, .val (.int p4), .val (.int jc), .val (.int tc), .val (.int fj), .val (.ref b9), .val (.ref b19), .unset, .unset, .unset, .unset] [(.long (own_out ((z0_60, z1_60, z2_60, z3_60, z4_60, z5_60) : SS)))])) _
          jvm_step X60.here [X60.here.top, hx, (hb hby at_84), Value.category]
          exact k)
      exact ⟨T60, T60.heap, _, z0_60, z1_60, z2_60, z3_60, z4_60, z5_60, X60, rfl, N61, Z63, KK64, p60_1, p60_2, p60_3, p60_4, p60_5, p60_6, p60_7, p60_8, p60_9, J65⟩
  obtain ⟨T67, h67, lo67, z0_67, z1_67, z2_67, z3_67, z4_67, z5_67, X67, e67, N67, Z67, K67, p67_1, p67_2, p67_3, p67_4, p67_5, p67_6, p67_7, p67_8, p67_9, st67⟩ := mg66
  have J68 : ∀ t, Steps p.tables e below (T67.setTop (mkF m 85 #[.val (.long q0), .second, .val (.long q1), .second, .val (.long q2), .second, .val (.long q3), .second, .val (.int p4), .val (.int jc), .val (.int tc), .val (.int fj), .val (.ref b9), .val (.ref b19), .unset, .unset, .unset, .unset] [])) t → Steps p.tables e below (s₁.setTop (entryFrame m #[(.long q0), (.long q1), (.long q2), (.long q3), (.int p4)] maxLocals)) t := fun t k => J57 t (st67 t k)
  have Z69 : n0 ≤ h67.size := Nat.le_trans Z56 K67.1
  have J70 : ∀ t, Steps p.tables e below (T67.setTop (mkF m 87 #[.val (.long q0), .second, .val (.long q1), .second, .val (.long q2), .second, .val (.long q3), .second, .val (.int p4), .val (.int jc), .val (.int tc), .val (.int fj), .val (.ref b9), .val (.ref b19), .unset, .unset, .unset, .unset] [(.ref b9)])) t → Steps p.tables e below (s₁.setTop (entryFrame m #[(.long q0), (.long q1), (.long q2), (.long q3), (.int p4)] maxLocals)) t := fun t k => J68 t (by
      show Steps p.tables e below (T67.setTop (mkF m 85 #[.val (.long q0), .second, .val (.long q1), .second, .val (.long q2), .second, .val (.long q3), .second, .val (.int p4), .val (.int jc), .val (.int tc), .val (.int fj), .val (.ref b9), .val (.ref b19), .unset, .unset, .unset, .unset] [])) _
      refine XS.aload X67.here hx rfl (hb hby at_85) rfl rfl ?_
      exact k)
  obtain ⟨cq71, kq71, q71a, q71b, q71c⟩ := isOf hZ e67 p67_1
  obtain ⟨_, _, ⟨T71, L71, k71, n71⟩, -, X71, ⟨Lc71, hQ71, l71, y71, z71⟩, st71⟩ := X67.virtualBack hx (y := (⟨"com/example/tranche/tranche/io/SipHash", "start", "()V"⟩ : MethodName)) (z := (⟨"com/example/tranche/tranche/io/SipHash", "start", "()V"⟩ : MethodName)) hown (mvT hZ (hw _ (List.mem_of_getElem? (i := 14) rfl))) (mvT hZ (hw _ (List.mem_of_getElem? (i := 15) rfl))) (notFace_of_selects (args := #[]) (mvT hZ (hw _ (List.mem_of_getElem? (i := 17) rfl)))) (mvT hZ (hw _ (List.mem_of_getElem? (i := 17) rfl))) (mvT hZ (hw _ (List.mem_of_getElem? (i := 16) rfl))) (by decide) (backOf (W := 0) (rm3 l Z a0 hw [] b9 q0 q1 z0_67 z1_67 z2_67 z3_67 z4_67 z5_67 h67 n0 Z69 p67_1 ge11 p67_2 p67_3 p67_4 p67_5 p67_6 p67_7 p67_8 p67_9) hZ (hw _ (List.mem_of_getElem? (i := 18) rfl)) (hw _ (List.mem_of_getElem? (i := 3) rfl)) (by decide) (by decide)) q71a q71c (g := (mkF m 87 #[.val (.long q0), .second, .val (.long q1), .second, .val (.long q2), .second, .val (.long q3), .second, .val (.int p4), .val (.int jc), .val (.int tc), .val (.int fj), .val (.ref b9), .val (.ref b19), .unset, .unset, .unset, .unset] [(.ref b9)])) rfl (by rw [hml]; rfl) (Steps.refl _) (argsL := []) (rest := []) (lenOf pd_1 rfl) rfl (by show 2 * 0 + _ ≤ _; exact Nat.le_of_eq rfl) (hb hby at_87) (fun _ _ => ⟨rfl, e67, (by decide : 2 + 0 ≤ _), (by decide : 16 + 0 ≤ _)⟩)
  dsimp only [Pt.U, Pt.locs, Pt.cells, Pt.slots] at X71 l71 y71 z71 st71 hQ71
  subst l71 y71 z71
  obtain ⟨z0_71, z1_71, z2_71, z3_71, z4_71, z5_71, rfl, Nq71, K71, p71_1, p71_2, p71_3, p71_4, p71_5, p71_6, p71_7, p71_8, p71_9, p71_10⟩ := hQ71
  have N72 := Fr.app N67 Nq71
  have J73 : ∀ t, Steps p.tables e below (T71.setTop (mkF m 90 #[.val (.long q0), .second, .val (.long q1), .second, .val (.long q2), .second, .val (.long q3), .second, .val (.int p4), .val (.int jc), .val (.int tc), .val (.int fj), .val (.ref b9), .val (.ref b19), .unset, .unset, .unset, .unset] [])) t → Steps p.tables e below (s₁.setTop (entryFrame m #[(.long q0), (.long q1), (.long q2), (.long q3), (.int p4)] maxLocals)) t := fun t k => J70 t (st71.trans k)
  have Z74 : n0 ≤ T71.heap.size := Nat.le_trans Z69 K71.1
  have J75 : ∀ t, Steps p.tables e below (T71.setTop (mkF m 96 #[.val (.long q0), .second, .val (.long q1), .second, .val (.long q2), .second, .val (.long q3), .second, .val (.int p4), .val (.int jc), .val (.int tc), .val (.int fj), .val (.ref b9), .val (.ref b19), .unset, .unset, .unset, .unset] [(.int tc), (.long q3), (.ref b9)])) t → Steps p.tables e below (s₁.setTop (entryFrame m #[(.long q0), (.long q1), (.long q2), (.long q3), (.int p4)] maxLocals)) t := fun t k => J73 t (by
      show Steps p.tables e below (T71.setTop (mkF m 90 #[.val (.long q0), .second, .val (.long q1), .second, .val (.long q2), .second, .val (.long q3), .second, .val (.int p4), .val (.int jc), .val (.int tc), .val (.int fj), .val (.ref b9), .val (.ref b19), .unset, .unset, .unset, .unset] [])) _
      refine XS.aload X71.here hx rfl (hb hby at_90) rfl rfl ?_
      show Steps p.tables e below (T71.setTop (mkF m 92 #[.val (.long q0), .second, .val (.long q1), .second, .val (.long q2), .second, .val (.long q3), .second, .val (.int p4), .val (.int jc), .val (.int tc), .val (.int fj), .val (.ref b9), .val (.ref b19), .unset, .unset, .unset, .unset] [(.ref b9)])) _
      refine XS.lload X71.here hx rfl (hb hby at_92) rfl ?_
      show Steps p.tables e below (T71.setTop (mkF m 94 #[.val (.long q0), .second, .val (.long q1), .second, .val (.long q2), .second, .val (.long q3), .second, .val (.int p4), .val (.int jc), .val (.int tc), .val (.int fj), .val (.ref b9), .val (.ref b19), .unset, .unset, .unset, .unset] [(.long q3), (.ref b9)])) _
      refine XS.iload X71.here hx rfl (hb hby at_94) rfl ?_
      exact k)
  obtain ⟨_, _, ⟨T76, L76, k76, n76⟩, -, X76, ⟨Lc76, hQ76, l76, y76, z76⟩, st76⟩ := Jvm.LawKit.callS X71 hx (y := (⟨"com/example/tranche/tranche/io/SipHashStartPinLaw", "feed", "(Lcom/example/tranche/tranche/io/SipHash;JI)V"⟩ : MethodName)) hown (mvT hZ (hw _ (List.mem_of_getElem? (i := 35) rfl))) (mvT hZ (hw _ (List.mem_of_getElem? (i := 36) rfl))) (mvT hZ (hw _ (List.mem_of_getElem? (i := 37) rfl))) (mvT hZ (hw _ (List.mem_of_getElem? (i := 38) rfl))) (by decide) (backOf (W := 0) (rm4 l Z a0 hw [] b9 q3 tc q0 q1 z0_71 z1_71 z2_71 z3_71 z4_71 z5_71 T71.heap n0 Z74 p71_1 ge11 p71_2 p71_3 p71_4 p71_5 p71_6 p71_7 p71_8 p71_9) hZ (hw _ (List.mem_of_getElem? (i := 38) rfl)) (hw _ (List.mem_of_getElem? (i := 37) rfl)) (by decide) (by decide)) (g := (mkF m 96 #[.val (.long q0), .second, .val (.long q1), .second, .val (.long q2), .second, .val (.long q3), .second, .val (.int p4), .val (.int jc), .val (.int tc), .val (.int fj), .val (.ref b9), .val (.ref b19), .unset, .unset, .unset, .unset] [(.int tc), (.long q3), (.ref b9)])) rfl (by rw [hml]; rfl) (argsL := [(.ref b9), (.long q3), (.int tc)]) (rest := []) (lenOf pd_5 rfl) rfl (by show 2 * 0 + _ ≤ _; exact Nat.le_of_eq rfl) (hb hby at_96) (fun _ _ => ⟨rfl, rfl, (by decide : 2 + 0 ≤ _), (by decide : 16 + 0 ≤ _)⟩)
  dsimp only [Pt.U, Pt.locs, Pt.cells, Pt.slots] at X76 l76 y76 z76 st76 hQ76
  subst l76 y76 z76
  obtain ⟨z0_76, z1_76, z2_76, z3_76, z4_76, z5_76, rfl, Nq76, K76, p76_1, p76_2, p76_3, p76_4, p76_5, p76_6, p76_7, p76_8, p76_9, p76_10⟩ := hQ76
  have N77 := Fr.app N72 Nq76
  have J78 : ∀ t, Steps p.tables e below (T76.setTop (mkF m 99 #[.val (.long q0), .second, .val (.long q1), .second, .val (.long q2), .second, .val (.long q3), .second, .val (.int p4), .val (.int jc), .val (.int tc), .val (.int fj), .val (.ref b9), .val (.ref b19), .unset, .unset, .unset, .unset] [])) t → Steps p.tables e below (s₁.setTop (entryFrame m #[(.long q0), (.long q1), (.long q2), (.long q3), (.int p4)] maxLocals)) t := fun t k => J75 t (st76 t k)
  have Z79 : n0 ≤ T76.heap.size := Nat.le_trans Z74 K76.1
  have J80 : ∀ t, Steps p.tables e below (T76.setTop (mkF m 101 #[.val (.long q0), .second, .val (.long q1), .second, .val (.long q2), .second, .val (.long q3), .second, .val (.int p4), .val (.int jc), .val (.int tc), .val (.int fj), .val (.ref b9), .val (.ref b19), .unset, .unset, .unset, .unset] [(.ref b9)])) t → Steps p.tables e below (s₁.setTop (entryFrame m #[(.long q0), (.long q1), (.long q2), (.long q3), (.int p4)] maxLocals)) t := fun t k => J78 t (by
      show Steps p.tables e below (T76.setTop (mkF m 99 #[.val (.long q0), .second, .val (.long q1), .second, .val (.long q2), .second, .val (.long q3), .second, .val (.int p4), .val (.int jc), .val (.int tc), .val (.int fj), .val (.ref b9), .val (.ref b19), .unset, .unset, .unset, .unset] [])) _
      refine XS.aload X76.here hx rfl (hb hby at_99) rfl rfl ?_
      exact k)
  obtain ⟨cq81, kq81, q81a, q81b, q81c⟩ := isOf hZ rfl p76_1
  obtain ⟨_, _, ⟨T81, L81, k81, n81⟩, -, X81, ⟨Lc81, hQ81, l81, y81, z81⟩, st81⟩ := X76.virtualBack hx (y := (⟨"com/example/tranche/tranche/io/SipHash", "finish", "()J"⟩ : MethodName)) (z := (⟨"com/example/tranche/tranche/io/SipHash", "finish", "()J"⟩ : MethodName)) hown (mvT hZ (hw _ (List.mem_of_getElem? (i := 44) rfl))) (mvT hZ (hw _ (List.mem_of_getElem? (i := 45) rfl))) (notFace_of_selects (args := #[]) (mvT hZ (hw _ (List.mem_of_getElem? (i := 47) rfl)))) (mvT hZ (hw _ (List.mem_of_getElem? (i := 47) rfl))) (mvT hZ (hw _ (List.mem_of_getElem? (i := 46) rfl))) (by decide) (backOf (W := 0) (rm6 l Z a0 hw [] b9 q0 q1 z0_76 z1_76 z2_76 z3_76 z4_76 z5_76 T76.heap n0 Z79 p76_1 ge11 p76_2 p76_3 p76_4 p76_5 p76_6 p76_7 p76_8 p76_9) hZ (hw _ (List.mem_of_getElem? (i := 48) rfl)) (hw _ (List.mem_of_getElem? (i := 3) rfl)) (by decide) (by decide)) q81a q81c (g := (mkF m 101 #[.val (.long q0), .second, .val (.long q1), .second, .val (.long q2), .second, .val (.long q3), .second, .val (.int p4), .val (.int jc), .val (.int tc), .val (.int fj), .val (.ref b9), .val (.ref b19), .unset, .unset, .unset, .unset] [(.ref b9)])) rfl (by rw [hml]; rfl) (Steps.refl _) (argsL := []) (rest := []) (lenOf pd_6 rfl) rfl (by show 2 * 0 + _ ≤ _; exact Nat.le_of_eq rfl) (hb hby at_101) (fun _ _ => ⟨rfl, rfl, (by decide : 2 + 0 ≤ _), (by decide : 16 + 0 ≤ _)⟩)
  dsimp only [Pt.U, Pt.locs, Pt.cells, Pt.slots] at X81 l81 y81 z81 st81 hQ81
  subst l81 y81 z81
  obtain ⟨z0_81, z1_81, z2_81, z3_81, z4_81, z5_81, rfl, Nq81, K81, p81_1, p81_2, p81_3, p81_4, p81_5, p81_6, p81_7, p81_8, p81_9, p81_10⟩ := hQ81
  have N82 := Fr.app N77 Nq81
  have J83 : ∀ t, Steps p.tables e below (T81.setTop (mkF m 104 #[.val (.long q0), .second, .val (.long q1), .second, .val (.long q2), .second, .val (.long q3), .second, .val (.int p4), .val (.int jc), .val (.int tc), .val (.int fj), .val (.ref b9), .val (.ref b19), .unset, .unset, .unset, .unset] [(.long (own_out ((z0_81, z1_81, z2_81, z3_81, z4_81, z5_81) : SS)))])) t → Steps p.tables e below (s₁.setTop (entryFrame m #[(.long q0), (.long q1), (.long q2), (.long q3), (.int p4)] maxLocals)) t := fun t k => J80 t (st81.trans k)
  have Z84 : n0 ≤ T81.heap.size := Nat.le_trans Z79 K81.1
  have J85 : ∀ t, Steps p.tables e below (T81.setTop (mkF m 108 #[.val (.long q0), .second, .val (.long q1), .second, .val (.long q2), .second, .val (.long q3), .second, .val (.int p4), .val (.int jc), .val (.int tc), .val (.int fj), .val (.ref b9), .val (.ref b19), .val (.long (own_out ((z0_81, z1_81, z2_81, z3_81, z4_81, z5_81) : SS))), .second, .unset, .unset] [(.ref b19)])) t → Steps p.tables e below (s₁.setTop (entryFrame m #[(.long q0), (.long q1), (.long q2), (.long q3), (.int p4)] maxLocals)) t := fun t k => J83 t (by
      show Steps p.tables e below (T81.setTop (mkF m 104 #[.val (.long q0), .second, .val (.long q1), .second, .val (.long q2), .second, .val (.long q3), .second, .val (.int p4), .val (.int jc), .val (.int tc), .val (.int fj), .val (.ref b9), .val (.ref b19), .unset, .unset, .unset, .unset] [(.long (own_out ((z0_81, z1_81, z2_81, z3_81, z4_81, z5_81) : SS)))])) _
      refine XS.lstore X81.here hx rfl (hb hby at_104) rfl (l' := #[.val (.long q0), .second, .val (.long q1), .second, .val (.long q2), .second, .val (.long q3), .second, .val (.int p4), .val (.int jc), .val (.int tc), .val (.int fj), .val (.ref b9), .val (.ref b19), .val (.long (own_out ((z0_81, z1_81, z2_81, z3_81, z4_81, z5_81) : SS))), .second, .unset, .unset]) rfl ?_
      show Steps p.tables e below (T81.setTop (mkF m 106 #[.val (.long q0), .second, .val (.long q1), .second, .val (.long q2), .second, .val (.long q3), .second, .val (.int p4), .val (.int jc), .val (.int tc), .val (.int fj), .val (.ref b9), .val (.ref b19), .val (.long (own_out ((z0_81, z1_81, z2_81, z3_81, z4_81, z5_81) : SS))), .second, .unset, .unset] [])) _
      refine XS.aload X81.here hx rfl (hb hby at_106) rfl rfl ?_
      exact k)
  have f86 := p25_1.keep K48
  have f87 := f86.keep K53
  have f88 := f87.keep K67
  have f89 := f88.keep K71
  have f90 := f89.keep K76
  have f91 := f90.keep K81
  have f92 := p25_2.keep K48 (ninS (Ne.symm ne21) nin0)
  have f93 := f92.keep K53 (ninS (Ne.symm ne21) nin0)
  have f94 := f93.keep K67 (ninS (Ne.symm ne21) nin0)
  have f95 := f94.keep K71 (ninS (Ne.symm ne21) nin0)
  have f96 := f95.keep K76 (ninS (Ne.symm ne21) nin0)
  have f97 := f96.keep K81 (ninS (Ne.symm ne21) nin0)
  have f98 := p25_3.keep K48 (ninS (Ne.symm ne21) nin0)
  have f99 := f98.keep K53 (ninS (Ne.symm ne21) nin0)
  have f100 := f99.keep K67 (ninS (Ne.symm ne21) nin0)
  have f101 := f100.keep K71 (ninS (Ne.symm ne21) nin0)
  have f102 := f101.keep K76 (ninS (Ne.symm ne21) nin0)
  have f103 := f102.keep K81 (ninS (Ne.symm ne21) nin0)
  have f104 := p25_4.keep K48 (ninS (Ne.symm ne21) nin0)
  have f105 := f104.keep K53 (ninS (Ne.symm ne21) nin0)
  have f106 := f105.keep K67 (ninS (Ne.symm ne21) nin0)
  have f107 := f106.keep K71 (ninS (Ne.symm ne21) nin0)
  have f108 := f107.keep K76 (ninS (Ne.symm ne21) nin0)
  have f109 := f108.keep K81 (ninS (Ne.symm ne21) nin0)
  have f110 := p25_5.keep K48 (ninS (Ne.symm ne21) nin0)
  have f111 := f110.keep K53 (ninS (Ne.symm ne21) nin0)
  have f112 := f111.keep K67 (ninS (Ne.symm ne21) nin0)
  have f113 := f112.keep K71 (ninS (Ne.symm ne21) nin0)
  have f114 := f113.keep K76 (ninS (Ne.symm ne21) nin0)
  have f115 := f114.keep K81 (ninS (Ne.symm ne21) nin0)
  have f116 := p25_6.keep K48 (ninS (Ne.symm ne21) nin0)
  have f117 := f116.keep K53 (ninS (Ne.symm ne21) nin0)
  have f118 := f117.keep K67 (ninS (Ne.symm ne21) nin0)
  have f119 := f118.keep K71 (ninS (Ne.symm ne21) nin0)
  have f120 := f119.keep K76 (ninS (Ne.symm ne21) nin0)
  have f121 := f120.keep K81 (ninS (Ne.symm ne21) nin0)
  have f122 := p25_7.keep K48 (ninS (Ne.symm ne21) nin0)
  have f123 := f122.keep K53 (ninS (Ne.symm ne21) nin0)
  have f124 := f123.keep K67 (ninS (Ne.symm ne21) nin0)
  have f125 := f124.keep K71 (ninS (Ne.symm ne21) nin0)
  have f126 := f125.keep K76 (ninS (Ne.symm ne21) nin0)
  have f127 := f126.keep K81 (ninS (Ne.symm ne21) nin0)
  have f128 := p25_8.keep K48 (ninS (Ne.symm ne21) nin0)
  have f129 := f128.keep K53 (ninS (Ne.symm ne21) nin0)
  have f130 := f129.keep K67 (ninS (Ne.symm ne21) nin0)
  have f131 := f130.keep K71 (ninS (Ne.symm ne21) nin0)
  have f132 := f131.keep K76 (ninS (Ne.symm ne21) nin0)
  have f133 := f132.keep K81 (ninS (Ne.symm ne21) nin0)
  have f134 := p25_9.keep K48 (ninS (Ne.symm ne21) nin0)
  have f135 := f134.keep K53 (ninS (Ne.symm ne21) nin0)
  have f136 := f135.keep K67 (ninS (Ne.symm ne21) nin0)
  have f137 := f136.keep K71 (ninS (Ne.symm ne21) nin0)
  have f138 := f137.keep K76 (ninS (Ne.symm ne21) nin0)
  have f139 := f138.keep K81 (ninS (Ne.symm ne21) nin0)
  obtain ⟨cq140, kq140, q140a, q140b, q140c⟩ := isOf hZ rfl f91
  obtain ⟨_, _, ⟨T140, L140, k140, n140⟩, -, X140, ⟨Lc140, hQ140, l140, y140, z140⟩, st140⟩ := X81.virtualBack hx (y := (⟨"com/example/tranche/tranche/io/SipHash", "start", "()V"⟩ : MethodName)) (z := (⟨"com/example/tranche/tranche/io/SipHash", "start", "()V"⟩ : MethodName)) hown (mvT hZ (hw _ (List.mem_of_getElem? (i := 14) rfl))) (mvT hZ (hw _ (List.mem_of_getElem? (i := 15) rfl))) (notFace_of_selects (args := #[]) (mvT hZ (hw _ (List.mem_of_getElem? (i := 17) rfl)))) (mvT hZ (hw _ (List.mem_of_getElem? (i := 17) rfl))) (mvT hZ (hw _ (List.mem_of_getElem? (i := 16) rfl))) (by decide) (backOf (W := 0) (rm3 l Z a0 hw [] b19 q0 q1 (0 : Int64) (0 : Int64) (0 : Int64) (0 : Int64) (0 : Int64) (0 : Int32) T81.heap n0 Z84 f91 ge22 f97 f103 f109 f115 f121 f127 f133 f139) hZ (hw _ (List.mem_of_getElem? (i := 18) rfl)) (hw _ (List.mem_of_getElem? (i := 3) rfl)) (by decide) (by decide)) q140a q140c (g := (mkF m 108 #[.val (.long q0), .second, .val (.long q1), .second, .val (.long q2), .second, .val (.long q3), .second, .val (.int p4), .val (.int jc), .val (.int tc), .val (.int fj), .val (.ref b9), .val (.ref b19), .val (.long (own_out ((z0_81, z1_81, z2_81, z3_81, z4_81, z5_81) : SS))), .second, .unset, .unset] [(.ref b19)])) rfl (by rw [hml]; rfl) (Steps.refl _) (argsL := []) (rest := []) (lenOf pd_1 rfl) rfl (by show 2 * 0 + _ ≤ _; exact Nat.le_of_eq rfl) (hb hby at_108) (fun _ _ => ⟨rfl, rfl, (by decide : 2 + 0 ≤ _), (by decide : 16 + 0 ≤ _)⟩)
  dsimp only [Pt.U, Pt.locs, Pt.cells, Pt.slots] at X140 l140 y140 z140 st140 hQ140
  subst l140 y140 z140
  obtain ⟨z0_140, z1_140, z2_140, z3_140, z4_140, z5_140, rfl, Nq140, K140, p140_1, p140_2, p140_3, p140_4, p140_5, p140_6, p140_7, p140_8, p140_9, p140_10⟩ := hQ140
  have N141 := Fr.app N82 Nq140
  have J142 : ∀ t, Steps p.tables e below (T140.setTop (mkF m 111 #[.val (.long q0), .second, .val (.long q1), .second, .val (.long q2), .second, .val (.long q3), .second, .val (.int p4), .val (.int jc), .val (.int tc), .val (.int fj), .val (.ref b9), .val (.ref b19), .val (.long (own_out ((z0_81, z1_81, z2_81, z3_81, z4_81, z5_81) : SS))), .second, .unset, .unset] [])) t → Steps p.tables e below (s₁.setTop (entryFrame m #[(.long q0), (.long q1), (.long q2), (.long q3), (.int p4)] maxLocals)) t := fun t k => J85 t (st140.trans k)
  have Z143 : n0 ≤ T140.heap.size := Nat.le_trans Z84 K140.1
  have J144 : ∀ t, Steps p.tables e below (T140.setTop (mkF m 117 #[.val (.long q0), .second, .val (.long q1), .second, .val (.long q2), .second, .val (.long q3), .second, .val (.int p4), .val (.int jc), .val (.int tc), .val (.int fj), .val (.ref b9), .val (.ref b19), .val (.long (own_out ((z0_81, z1_81, z2_81, z3_81, z4_81, z5_81) : SS))), .second, .unset, .unset] [(.int tc), (.long q3), (.ref b19)])) t → Steps p.tables e below (s₁.setTop (entryFrame m #[(.long q0), (.long q1), (.long q2), (.long q3), (.int p4)] maxLocals)) t := fun t k => J142 t (by
      show Steps p.tables e below (T140.setTop (mkF m 111 #[.val (.long q0), .second, .val (.long q1), .second, .val (.long q2), .second, .val (.long q3), .second, .val (.int p4), .val (.int jc), .val (.int tc), .val (.int fj), .val (.ref b9), .val (.ref b19), .val (.long (own_out ((z0_81, z1_81, z2_81, z3_81, z4_81, z5_81) : SS))), .second, .unset, .unset] [])) _
      refine XS.aload X140.here hx rfl (hb hby at_111) rfl rfl ?_
      show Steps p.tables e below (T140.setTop (mkF m 113 #[.val (.long q0), .second, .val (.long q1), .second, .val (.long q2), .second, .val (.long q3), .second, .val (.int p4), .val (.int jc), .val (.int tc), .val (.int fj), .val (.ref b9), .val (.ref b19), .val (.long (own_out ((z0_81, z1_81, z2_81, z3_81, z4_81, z5_81) : SS))), .second, .unset, .unset] [(.ref b19)])) _
      refine XS.lload X140.here hx rfl (hb hby at_113) rfl ?_
      show Steps p.tables e below (T140.setTop (mkF m 115 #[.val (.long q0), .second, .val (.long q1), .second, .val (.long q2), .second, .val (.long q3), .second, .val (.int p4), .val (.int jc), .val (.int tc), .val (.int fj), .val (.ref b9), .val (.ref b19), .val (.long (own_out ((z0_81, z1_81, z2_81, z3_81, z4_81, z5_81) : SS))), .second, .unset, .unset] [(.long q3), (.ref b19)])) _
      refine XS.iload X140.here hx rfl (hb hby at_115) rfl ?_
      exact k)
  obtain ⟨_, _, ⟨T145, L145, k145, n145⟩, -, X145, ⟨Lc145, hQ145, l145, y145, z145⟩, st145⟩ := Jvm.LawKit.callS X140 hx (y := (⟨"com/example/tranche/tranche/io/SipHashStartPinLaw", "feed", "(Lcom/example/tranche/tranche/io/SipHash;JI)V"⟩ : MethodName)) hown (mvT hZ (hw _ (List.mem_of_getElem? (i := 35) rfl))) (mvT hZ (hw _ (List.mem_of_getElem? (i := 36) rfl))) (mvT hZ (hw _ (List.mem_of_getElem? (i := 37) rfl))) (mvT hZ (hw _ (List.mem_of_getElem? (i := 38) rfl))) (by decide) (backOf (W := 0) (rm4 l Z a0 hw [] b19 q3 tc q0 q1 z0_140 z1_140 z2_140 z3_140 z4_140 z5_140 T140.heap n0 Z143 p140_1 ge22 p140_2 p140_3 p140_4 p140_5 p140_6 p140_7 p140_8 p140_9) hZ (hw _ (List.mem_of_getElem? (i := 38) rfl)) (hw _ (List.mem_of_getElem? (i := 37) rfl)) (by decide) (by decide)) (g := (mkF m 117 #[.val (.long q0), .second, .val (.long q1), .second, .val (.long q2), .second, .val (.long q3), .second, .val (.int p4), .val (.int jc), .val (.int tc), .val (.int fj), .val (.ref b9), .val (.ref b19), .val (.long (own_out ((z0_81, z1_81, z2_81, z3_81, z4_81, z5_81) : SS))), .second, .unset, .unset] [(.int tc), (.long q3), (.ref b19)])) rfl (by rw [hml]; rfl) (argsL := [(.ref b19), (.long q3), (.int tc)]) (rest := []) (lenOf pd_5 rfl) rfl (by show 2 * 0 + _ ≤ _; exact Nat.le_of_eq rfl) (hb hby at_117) (fun _ _ => ⟨rfl, rfl, (by decide : 2 + 0 ≤ _), (by decide : 16 + 0 ≤ _)⟩)
  dsimp only [Pt.U, Pt.locs, Pt.cells, Pt.slots] at X145 l145 y145 z145 st145 hQ145
  subst l145 y145 z145
  obtain ⟨z0_145, z1_145, z2_145, z3_145, z4_145, z5_145, rfl, Nq145, K145, p145_1, p145_2, p145_3, p145_4, p145_5, p145_6, p145_7, p145_8, p145_9, p145_10⟩ := hQ145
  have N146 := Fr.app N141 Nq145
  have J147 : ∀ t, Steps p.tables e below (T145.setTop (mkF m 120 #[.val (.long q0), .second, .val (.long q1), .second, .val (.long q2), .second, .val (.long q3), .second, .val (.int p4), .val (.int jc), .val (.int tc), .val (.int fj), .val (.ref b9), .val (.ref b19), .val (.long (own_out ((z0_81, z1_81, z2_81, z3_81, z4_81, z5_81) : SS))), .second, .unset, .unset] [])) t → Steps p.tables e below (s₁.setTop (entryFrame m #[(.long q0), (.long q1), (.long q2), (.long q3), (.int p4)] maxLocals)) t := fun t k => J144 t (st145 t k)
  have Z148 : n0 ≤ T145.heap.size := Nat.le_trans Z143 K145.1
  have J149 : ∀ t, Steps p.tables e below (T145.setTop (mkF m 122 #[.val (.long q0), .second, .val (.long q1), .second, .val (.long q2), .second, .val (.long q3), .second, .val (.int p4), .val (.int jc), .val (.int tc), .val (.int fj), .val (.ref b9), .val (.ref b19), .val (.long (own_out ((z0_81, z1_81, z2_81, z3_81, z4_81, z5_81) : SS))), .second, .unset, .unset] [(.ref b19)])) t → Steps p.tables e below (s₁.setTop (entryFrame m #[(.long q0), (.long q1), (.long q2), (.long q3), (.int p4)] maxLocals)) t := fun t k => J147 t (by
      show Steps p.tables e below (T145.setTop (mkF m 120 #[.val (.long q0), .second, .val (.long q1), .second, .val (.long q2), .second, .val (.long q3), .second, .val (.int p4), .val (.int jc), .val (.int tc), .val (.int fj), .val (.ref b9), .val (.ref b19), .val (.long (own_out ((z0_81, z1_81, z2_81, z3_81, z4_81, z5_81) : SS))), .second, .unset, .unset] [])) _
      refine XS.aload X145.here hx rfl (hb hby at_120) rfl rfl ?_
      exact k)
  obtain ⟨cq150, kq150, q150a, q150b, q150c⟩ := isOf hZ rfl p145_1
  obtain ⟨_, _, ⟨T150, L150, k150, n150⟩, -, X150, ⟨Lc150, hQ150, l150, y150, z150⟩, st150⟩ := X145.virtualBack hx (y := (⟨"com/example/tranche/tranche/io/SipHash", "finish", "()J"⟩ : MethodName)) (z := (⟨"com/example/tranche/tranche/io/SipHash", "finish", "()J"⟩ : MethodName)) hown (mvT hZ (hw _ (List.mem_of_getElem? (i := 44) rfl))) (mvT hZ (hw _ (List.mem_of_getElem? (i := 45) rfl))) (notFace_of_selects (args := #[]) (mvT hZ (hw _ (List.mem_of_getElem? (i := 47) rfl)))) (mvT hZ (hw _ (List.mem_of_getElem? (i := 47) rfl))) (mvT hZ (hw _ (List.mem_of_getElem? (i := 46) rfl))) (by decide) (backOf (W := 0) (rm6 l Z a0 hw [] b19 q0 q1 z0_145 z1_145 z2_145 z3_145 z4_145 z5_145 T145.heap n0 Z148 p145_1 ge22 p145_2 p145_3 p145_4 p145_5 p145_6 p145_7 p145_8 p145_9) hZ (hw _ (List.mem_of_getElem? (i := 48) rfl)) (hw _ (List.mem_of_getElem? (i := 3) rfl)) (by decide) (by decide)) q150a q150c (g := (mkF m 122 #[.val (.long q0), .second, .val (.long q1), .second, .val (.long q2), .second, .val (.long q3), .second, .val (.int p4), .val (.int jc), .val (.int tc), .val (.int fj), .val (.ref b9), .val (.ref b19), .val (.long (own_out ((z0_81, z1_81, z2_81, z3_81, z4_81, z5_81) : SS))), .second, .unset, .unset] [(.ref b19)])) rfl (by rw [hml]; rfl) (Steps.refl _) (argsL := []) (rest := []) (lenOf pd_6 rfl) rfl (by show 2 * 0 + _ ≤ _; exact Nat.le_of_eq rfl) (hb hby at_122) (fun _ _ => ⟨rfl, rfl, (by decide : 2 + 0 ≤ _), (by decide : 16 + 0 ≤ _)⟩)
  dsimp only [Pt.U, Pt.locs, Pt.cells, Pt.slots] at X150 l150 y150 z150 st150 hQ150
  subst l150 y150 z150
  obtain ⟨z0_150, z1_150, z2_150, z3_150, z4_150, z5_150, rfl, Nq150, K150, p150_1, p150_2, p150_3, p150_4, p150_5, p150_6, p150_7, p150_8, p150_9, p150_10⟩ := hQ150
  have N151 := Fr.app N146 Nq150
  have J152 : ∀ t, Steps p.tables e below (T150.setTop (mkF m 125 #[.val (.long q0), .second, .val (.long q1), .second, .val (.long q2), .second, .val (.long q3), .second, .val (.int p4), .val (.int jc), .val (.int tc), .val (.int fj), .val (.ref b9), .val (.ref b19), .val (.long (own_out ((z0_81, z1_81, z2_81, z3_81, z4_81, z5_81) : SS))), .second, .unset, .unset] [(.long (own_out ((z0_150, z1_150, z2_150, z3_150, z4_150, z5_150) : SS)))])) t → Steps p.tables e below (s₁.setTop (entryFrame m #[(.long q0), (.long q1), (.long q2), (.long q3), (.int p4)] maxLocals)) t := fun t k => J149 t (st150.trans k)
  have Z153 : n0 ≤ T150.heap.size := Nat.le_trans Z148 K150.1
  have hab : (own_out ((z0_81, z1_81, z2_81, z3_81, z4_81, z5_81) : SS)) = (own_out ((z0_150, z1_150, z2_150, z3_150, z4_150, z5_150) : SS)) := by rw [p81_10, p76_10, p71_10, p150_10, p145_10, p140_10]
  have J154 : ∀ t, Steps p.tables e below (T150.setTop (mkF m 140 #[.val (.long q0), .second, .val (.long q1), .second, .val (.long q2), .second, .val (.long q3), .second, .val (.int p4), .val (.int jc), .val (.int tc), .val (.int fj), .val (.ref b9), .val (.ref b19), .val (.long (own_out ((z0_81, z1_81, z2_81, z3_81, z4_81, z5_81) : SS))), .second, .val (.long (own_out ((z0_150, z1_150, z2_150, z3_150, z4_150, z5_150) : SS))), .second] [(.int (1 : Int32))])) t → Steps p.tables e below (s₁.setTop (entryFrame m #[(.long q0), (.long q1), (.long q2), (.long q3), (.int p4)] maxLocals)) t := fun t k => J152 t (by
      show Steps p.tables e below (T150.setTop (mkF m 125 #[.val (.long q0), .second, .val (.long q1), .second, .val (.long q2), .second, .val (.long q3), .second, .val (.int p4), .val (.int jc), .val (.int tc), .val (.int fj), .val (.ref b9), .val (.ref b19), .val (.long (own_out ((z0_81, z1_81, z2_81, z3_81, z4_81, z5_81) : SS))), .second, .unset, .unset] [(.long (own_out ((z0_150, z1_150, z2_150, z3_150, z4_150, z5_150) : SS)))])) _
      refine XS.lstore X150.here hx rfl (hb hby at_125) rfl (l' := #[.val (.long q0), .second, .val (.long q1), .second, .val (.long q2), .second, .val (.long q3), .second, .val (.int p4), .val (.int jc), .val (.int tc), .val (.int fj), .val (.ref b9), .val (.ref b19), .val (.long (own_out ((z0_81, z1_81, z2_81, z3_81, z4_81, z5_81) : SS))), .second, .val (.long (own_out ((z0_150, z1_150, z2_150, z3_150, z4_150, z5_150) : SS))), .second]) rfl ?_
      show Steps p.tables e below (T150.setTop (mkF m 127 #[.val (.long q0), .second, .val (.long q1), .second, .val (.long q2), .second, .val (.long q3), .second, .val (.int p4), .val (.int jc), .val (.int tc), .val (.int fj), .val (.ref b9), .val (.ref b19), .val (.long (own_out ((z0_81, z1_81, z2_81, z3_81, z4_81, z5_81) : SS))), .second, .val (.long (own_out ((z0_150, z1_150, z2_150, z3_150, z4_150, z5_150) : SS))), .second] [])) _
      refine XS.lload X150.here hx rfl (hb hby at_127) rfl ?_
      show Steps p.tables e below (T150.setTop (mkF m 129 #[.val (.long q0), .second, .val (.long q1), .second, .val (.long q2), .second, .val (.long q3), .second, .val (.int p4), .val (.int jc), .val (.int tc), .val (.int fj), .val (.ref b9), .val (.ref b19), .val (.long (own_out ((z0_81, z1_81, z2_81, z3_81, z4_81, z5_81) : SS))), .second, .val (.long (own_out ((z0_150, z1_150, z2_150, z3_150, z4_150, z5_150) : SS))), .second] [(.long (own_out ((z0_81, z1_81, z2_81, z3_81, z4_81, z5_81) : SS)))])) _
      refine XS.lload X150.here hx rfl (hb hby at_129) rfl ?_
      show Steps p.tables e below (T150.setTop (mkF m 131 #[.val (.long q0), .second, .val (.long q1), .second, .val (.long q2), .second, .val (.long q3), .second, .val (.int p4), .val (.int jc), .val (.int tc), .val (.int fj), .val (.ref b9), .val (.ref b19), .val (.long (own_out ((z0_81, z1_81, z2_81, z3_81, z4_81, z5_81) : SS))), .second, .val (.long (own_out ((z0_150, z1_150, z2_150, z3_150, z4_150, z5_150) : SS))), .second] [(.long (own_out ((z0_150, z1_150, z2_150, z3_150, z4_150, z5_150) : SS))), (.long (own_out ((z0_81, z1_81, z2_81, z3_81, z4_81, z5_81) : SS)))])) _
      refine XS.lcmp X150.here hx rfl (hb hby at_131) rfl ?_
      show Steps p.tables e below (T150.setTop (mkF m 132 #[.val (.long q0), .second, .val (.long q1), .second, .val (.long q2), .second, .val (.long q3), .second, .val (.int p4), .val (.int jc), .val (.int tc), .val (.int fj), .val (.ref b9), .val (.ref b19), .val (.long (own_out ((z0_81, z1_81, z2_81, z3_81, z4_81, z5_81) : SS))), .second, .val (.long (own_out ((z0_150, z1_150, z2_150, z3_150, z4_150, z5_150) : SS))), .second] [(.int (lcmpW (own_out ((z0_81, z1_81, z2_81, z3_81, z4_81, z5_81) : SS)) (own_out ((z0_150, z1_150, z2_150, z3_150, z4_150, z5_150) : SS))))])) _
      refine XS.ifNo X150.here hx rfl (hb hby at_132) rfl ((if0 _ _).trans (teq ((lw_eq _ _).mpr hab)).2) ?_
      show Steps p.tables e below (T150.setTop (mkF m 135 #[.val (.long q0), .second, .val (.long q1), .second, .val (.long q2), .second, .val (.long q3), .second, .val (.int p4), .val (.int jc), .val (.int tc), .val (.int fj), .val (.ref b9), .val (.ref b19), .val (.long (own_out ((z0_81, z1_81, z2_81, z3_81, z4_81, z5_81) : SS))), .second, .val (.long (own_out ((z0_150, z1_150, z2_150, z3_150, z4_150, z5_150) : SS))), .second] [])) _
      refine XS.iconst X150.here hx rfl (hb hby at_135) ?_
      show Steps p.tables e below (T150.setTop (mkF m 136 #[.val (.long q0), .second, .val (.long q1), .second, .val (.long q2), .second, .val (.long q3), .second, .val (.int p4), .val (.int jc), .val (.int tc), .val (.int fj), .val (.ref b9), .val (.ref b19), .val (.long (own_out ((z0_81, z1_81, z2_81, z3_81, z4_81, z5_81) : SS))), .second, .val (.long (own_out ((z0_150, z1_150, z2_150, z3_150, z4_150, z5_150) : SS))), .second] [(.int (1 : Int32))])) _
      refine XS.goto X150.here hx rfl (pc0 := 136) (pc' := 140) rfl (hb hby at_136) (by decide) (by decide) ?_
      exact k)
  obtain ⟨fs, hr, hrun, hended, hW, hsame⟩ := X150.leave (v := some (.int (1 : Int32))) (fun h => by rw [Bd.returns] at h; cases h)
  refine ⟨_, _, J154 _ ?_, hrun, hended, _, _, rfl, ?_, ⟨_, rfl⟩, hW, hsame.mono (by decide) (by decide)⟩
  · show Steps p.tables e below (T150.setTop (mkF m 140 #[.val (.long q0), .second, .val (.long q1), .second, .val (.long q2), .second, .val (.long q3), .second, .val (.int p4), .val (.int jc), .val (.int tc), .val (.int fj), .val (.ref b9), .val (.ref b19), .val (.long (own_out ((z0_81, z1_81, z2_81, z3_81, z4_81, z5_81) : SS))), .second, .val (.long (own_out ((z0_150, z1_150, z2_150, z3_150, z4_150, z5_150) : SS))), .second] [(.int (1 : Int32))])) _
    exact retN X150 hx (t := .boolean) Bd.returns (by simp) (hb hby at_140) hr
  · show Q0 Z q0 q1 q2 q3 p4 h0 n0 _ T150.heap _
    exact ⟨rfl, N151⟩
set_option maxRecDepth 65536 in
set_option maxHeartbeats 40000000 in
theorem comes_1 {Post : Tables → Env → Array Value → State → Outcome → State → Prop} (hpost : ∀ tb e args s v u, (limb_1_1.after args s (.returned v) u = true ∧ limb_1_2.after args s (.returned v) u = true ∧ True) → FrameEnd s (.returned v) u (Jvm.fieldLocs frame_1_writes args s ++ Jvm.arrayLocs frame_1_arrays args s ++ Jvm.staticLocs frame_1_statics s) 16 128 → Post tb e args s (.returned v) u) :
    ArmFor flags0 classFile x code maxLocals ret World_1 tables_1 room_1 Calls_1 rest_1 Pre_1 Post := by
  intro l hfl _ _ p e ha hc hk s m args below hf hA hF happ hP
  obtain ⟨hcalls, hrest, hpre⟩ := hP
  obtain ⟨-, -, -, hnamed, -, -, -, hat⟩ := (Spec.applies_iff hf).mp happ
  obtain ⟨hg, hn⟩ := and_e (Cond.before_iff.mp (show (Jvm.Cond.and given_1 narrow_1).before args s = true from hpre))
  obtain ⟨hcount, hg0⟩ := and_e hg
  obtain ⟨ga0, hg1⟩ := and_e hg0
  obtain ⟨ga1, hg2⟩ := and_e hg1
  obtain ⟨ga2, hg3⟩ := and_e hg2
  obtain ⟨ga3, hg4⟩ := and_e hg3
  obtain ⟨w0, w1, w2, w3, w4, rfl⟩ : ∃ w0 w1 w2 w3 w4 : Value, args = #[w0, w1, w2, w3, w4] := by
    have hs : args.size = 5 := by simpa [Cond.value, given_1] using hcount
    obtain ⟨L⟩ := args
    match L, hs with
    | [w0, w1, w2, w3, w4], _ => exact ⟨w0, w1, w2, w3, w4, rfl⟩
  have hw := fun d (hd : d ∈ tables_1) => atoms_spec (ws := Jvm.Cond.code x code maxLocals ret :: tables_1) hat d (List.mem_cons_of_mem _ hd)
  have hfit : Fit s := fun {y c} hc i hi => by
    obtain ⟨ha, rfl⟩ := Array.getElem?_eq_some_iff.mp hc
    have q := List.all_eq_true.mp ((Array.all_eq_true_iff_forall_mem.mp hF) _ (Array.getElem_mem ha)) i (List.mem_range.mpr hi)
    simpa [Array.getElem?_eq_getElem hi] using q
  obtain ⟨i0, ei0⟩ := isL_v ga0
  obtain rfl : w0 = (.long i0) := Option.some.inj ei0
  obtain ⟨i1, ei1⟩ := isL_v ga1
  obtain rfl : w1 = (.long i1) := Option.some.inj ei1
  obtain ⟨i2, ei2⟩ := isL_v ga2
  obtain rfl : w2 = (.long i2) := Option.some.inj ei2
  obtain ⟨i3, ei3⟩ := isL_v ga3
  obtain rfl : w3 = (.long i3) := Option.some.inj ei3
  obtain ⟨i4, ei4⟩ := is_v hg4
  obtain rfl : w4 = (.int i4) := Option.some.inj ei4
  obtain ⟨n, o, h1, h2, h3, _, L, rfl, ⟨rfl, N⟩, hq⟩ := rm0 l s _ hw tables_1 i0 i1 i2 i3 i4 s.heap s.heap.size (Nat.le_refl _)  p e ha hc hk s m _ below hf ((Spec.applies_iff_loose hf).mp happ).1 ⟨rfl, State.Warmed39.refl s, rfl⟩ trivial
  refine ⟨n, _, h1, h2, h3, hpost _ _ _ _ _ _ ⟨Cond.after_iff.mpr rfl, Cond.after_iff.mpr (eq_i res_at (Term.int_eval (1)) rfl), trivial⟩ ⟨hq.1, hq.2.1, (hq.2.2.sift fun y hy => Or.inr (N y hy)).mono (by decide) (by decide)⟩⟩
theorem main_1_1 : Claimed_1_1 := comes_1 fun _ _ _ _ _ _ h hF => ⟨h.1, hF⟩
theorem main_1_2 : Claimed_1_2 := comes_1 fun _ _ _ _ _ _ h hF => ⟨h.2.1, hF⟩
end Jvm.Pilot.@@N@@
namespace Jvm.Pilot.@@N@@
open Jvm Jvm.ClassFile Sem Op Lib Jvm.Free Jvm.Stand Jvm.Pilot.@@N@@.Jvm.D
/-! MADE BY PROGRAM (witnessworld.py) out of the Statement's table words and the real class files: 14 classes; the members and pool entries that the words name. The judged class is class 1, her method 2. -/
namespace start1
open Jvm.ClassFile
def u (s : String) : CpInfo := .utf8 (stringToUtf16 s)
/-- a pool by its gaps: so many unusable entries, then the entry; so many at the end -/
def gap : Nat → List CpInfo → List CpInfo
  | 0, r => r
  | n + 1, r => .unusable :: gap n r
def poolList (es : List (Nat × CpInfo)) (last : Nat) : List CpInfo := es.foldr (fun e r => gap e.1 (e.2 :: r)) (gap last [])
def pool (es : List (Nat × CpInfo)) (last : Nat) : Array CpInfo := ⟨poolList es last⟩
def fileOf (pool : Array CpInfo) (this : Nat) (attrs : Array Attribute := #[]) (ms : Array MethodInfo := #[]) (fl : Nat := 33) (sup : Nat := 0) (ifs : Array Nat := #[]) (fds : Array FieldInfo := #[]) : ClassFile where
  minorVersion := 0
  majorVersion := 65
  constantPool := pool
  accessFlags := fl
  thisClass := this
  superClass := sup
  interfaces := ifs
  fields := fds
  methods := ms
  attributes := attrs
def plain (name : String) (sup : Option ClassId) : Class where
  name := name
  kind := .ordinary
  loader := none
  accessFlags := 33
  super := sup
  interfaces := #[]
  cf := none
  fields := #[]
  methods := #[]
  instanceTypes := #[]
  staticTypes := #[]
  resolved := #[]
  callSites := []
  init := .initialized
  statics := none
  mirror := none

def pool0 : Array CpInfo := pool [(5, u "<init>"), (0, u "()V"), (1, .class_ 10), (1, u "java/lang/Object")] 113

def k0c0 : Code := { maxStack := 0, maxLocals := 1, code := object_method_1_code, exceptionTable := #[], attributes := #[] }
def k0m0 : Method := { name := "<init>", desc := "()V", sig := { parameters := [], returnType := none }, accessFlags := 1, code := some k0c0 }
/-- java/lang/Object -/
def k0 : Class := { plain "java/lang/Object" none with
  accessFlags := 33
  interfaces := #[]
  cf := some (fileOf pool0 8 #[] #[{ accessFlags := 1, nameIndex := 5, descriptorIndex := 6, attributes := #[] }] 33 0 #[] #[])
  fields := #[]
  methods := #[k0m0]
  instanceTypes := #[]
  staticTypes := #[]
  resolved := Array.replicate 124 none
  statics := none }

def pool1 : Array CpInfo := pool [(2, .class_ 4), (1, u "java/lang/Object"), (0, u "<init>"), (0, u "()V"), (0, .methodref 8 9), (0, .class_ 10), (0, .nameAndType 11 12), (0, u "com/example/tranche/tranche/io/SipHash"), (0, u "add"), (0, u "(C)V"), (0, .integer 2147483647), (0, .methodref 8 15), (0, .nameAndType 5 16), (0, u "(JJ)V"), (0, .methodref 8 18), (0, .nameAndType 19 6), (0, u "start"), (0, .methodref 21 22), (0, .class_ 23), (0, .nameAndType 24 25), (0, u "com/example/tranche/tranche/io/SipHashStartPinLaw"), (0, u "feed"), (0, u "(Lcom/example/tranche/tranche/io/SipHash;JI)V"), (0, .methodref 8 27), (0, .nameAndType 28 29), (0, u "finish"), (0, u "()J"), (3, u "law"), (0, u "(JJJJI)Z")] 2

def k1m0 : Method := { name := "<init>", desc := "()V", sig := { parameters := [], returnType := none }, accessFlags := 1, code := none }
def k1c1 : Code := { maxStack := 4, maxLocals := 4, code := method_2_code, exceptionTable := #[], attributes := #[] }
def k1m1 : Method := { name := "feed", desc := "(Lcom/example/tranche/tranche/io/SipHash;JI)V", sig := { parameters := [(.object "com/example/tranche/tranche/io/SipHash"), .long, .int], returnType := none }, accessFlags := 10, code := some k1c1 }
def k1c2 : Code := { maxStack := 6, maxLocals := 18, code := code, exceptionTable := #[], attributes := #[] }
def k1m2 : Method := { name := "law", desc := "(JJJJI)Z", sig := { parameters := [.long, .long, .long, .long, .int], returnType := some .boolean }, accessFlags := 9, code := some k1c2 }
/-- com/example/tranche/tranche/io/SipHashStartPinLaw -/
def k1 : Class := { plain "com/example/tranche/tranche/io/SipHashStartPinLaw" (some 0) with
  accessFlags := 49
  interfaces := #[]
  cf := some (fileOf pool1 21 #[] #[{ accessFlags := 1, nameIndex := 5, descriptorIndex := 6, attributes := #[] }, { accessFlags := 10, nameIndex := 24, descriptorIndex := 25, attributes := #[] }, { accessFlags := 9, nameIndex := 33, descriptorIndex := 34, attributes := #[] }] 49 2 #[] #[])
  fields := #[]
  methods := #[k1m0, k1m1, k1m2]
  instanceTypes := #[]
  staticTypes := #[]
  resolved := Array.replicate 37 none
  statics := none }

def pool2 : Array CpInfo := pool [(1, .class_ 2), (0, u "java/lang/Long"), (4, .methodref 8 9), (0, .class_ 10), (0, .nameAndType 11 12), (0, u "java/lang/Object"), (0, u "<init>"), (0, u "()V"), (0, .fieldref 14 15), (0, .class_ 16), (0, .nameAndType 17 18), (0, u "com/example/tranche/tranche/io/SipHash"), (0, u "key0"), (0, u "J"), (0, .fieldref 14 20), (0, .nameAndType 21 18), (0, u "key1"), (0, .long 8317987319222330741), (1, .fieldref 14 25), (0, .nameAndType 26 18), (0, u "v0"), (0, .long 7237128888997146477), (1, .fieldref 14 30), (0, .nameAndType 31 18), (0, u "v1"), (0, .long 7816392313619706465), (1, .fieldref 14 35), (0, .nameAndType 36 18), (0, u "v2"), (0, .long 8387220255154660723), (1, .fieldref 14 40), (0, .nameAndType 41 18), (0, u "v3"), (0, .fieldref 14 43), (0, .nameAndType 44 18), (0, u "word"), (0, .fieldref 14 46), (0, .nameAndType 47 48), (0, u "length"), (0, u "I"), (0, .methodref 14 50), (0, .nameAndType 51 52), (0, u "compress"), (0, u "(J)V"), (0, .long 2), (1, .long 255), (1, .methodref 14 58), (0, .nameAndType 59 12), (0, u "round"), (0, .methodref 1 61), (0, .nameAndType 62 63), (0, u "rotateLeft"), (0, u "(JI)J"), (0, u "INIT0"), (1, u "INIT1"), (0, u "INIT2"), (0, u "INIT3"), (0, u "WORD_ROUNDS"), (1, u "FINAL_ROUNDS"), (1, u "CHARS_PER_WORD"), (1, u "LENGTH_SHIFT"), (1, u "FINAL_MARK"), (0, u "(JJ)V"), (2, u "start"), (0, u "add"), (0, u "(C)V"), (1, u "finish"), (0, u "()J")] 2

def k2c0 : Code := { maxStack := 3, maxLocals := 5, code := prog_76_method_1_code, exceptionTable := #[], attributes := #[] }
def k2m0 : Method := { name := "<init>", desc := "(JJ)V", sig := { parameters := [.long, .long], returnType := none }, accessFlags := 0, code := some k2c0 }
def k2c1 : Code := { maxStack := 5, maxLocals := 1, code := prog_76_method_2_code, exceptionTable := #[], attributes := #[] }
def k2m1 : Method := { name := "start", desc := "()V", sig := { parameters := [], returnType := none }, accessFlags := 0, code := some k2c1 }
def k2c2 : Code := { maxStack := 8, maxLocals := 2, code := prog_76_method_3_code, exceptionTable := #[], attributes := #[] }
def k2m2 : Method := { name := "add", desc := "(C)V", sig := { parameters := [.char], returnType := none }, accessFlags := 0, code := some k2c2 }
def k2c3 : Code := { maxStack := 7, maxLocals := 2, code := prog_76_method_4_code, exceptionTable := #[], attributes := #[] }
def k2m3 : Method := { name := "finish", desc := "()J", sig := { parameters := [], returnType := some .long }, accessFlags := 0, code := some k2c3 }
def k2c4 : Code := { maxStack := 5, maxLocals := 4, code := prog_76_method_5_code, exceptionTable := #[], attributes := #[] }
def k2m4 : Method := { name := "compress", desc := "(J)V", sig := { parameters := [.long], returnType := none }, accessFlags := 2, code := some k2c4 }
def k2c5 : Code := { maxStack := 5, maxLocals := 1, code := prog_76_method_6_code, exceptionTable := #[], attributes := #[] }
def k2m5 : Method := { name := "round", desc := "()V", sig := { parameters := [], returnType := none }, accessFlags := 2, code := some k2c5 }
/-- com/example/tranche/tranche/io/SipHash -/
def k2 : Class := { plain "com/example/tranche/tranche/io/SipHash" (some 0) with
  accessFlags := 48
  interfaces := #[]
  cf := some (fileOf pool2 14 #[] #[{ accessFlags := 0, nameIndex := 11, descriptorIndex := 78, attributes := #[] }, { accessFlags := 0, nameIndex := 81, descriptorIndex := 12, attributes := #[] }, { accessFlags := 0, nameIndex := 82, descriptorIndex := 83, attributes := #[] }, { accessFlags := 0, nameIndex := 85, descriptorIndex := 86, attributes := #[] }, { accessFlags := 2, nameIndex := 51, descriptorIndex := 52, attributes := #[] }, { accessFlags := 2, nameIndex := 59, descriptorIndex := 12, attributes := #[] }] 48 8 #[] #[{ accessFlags := 26, nameIndex := 64, descriptorIndex := 18, attributes := #[] }, { accessFlags := 26, nameIndex := 66, descriptorIndex := 18, attributes := #[] }, { accessFlags := 26, nameIndex := 67, descriptorIndex := 18, attributes := #[] }, { accessFlags := 26, nameIndex := 68, descriptorIndex := 18, attributes := #[] }, { accessFlags := 26, nameIndex := 69, descriptorIndex := 48, attributes := #[] }, { accessFlags := 26, nameIndex := 71, descriptorIndex := 48, attributes := #[] }, { accessFlags := 26, nameIndex := 73, descriptorIndex := 48, attributes := #[] }, { accessFlags := 26, nameIndex := 75, descriptorIndex := 48, attributes := #[] }, { accessFlags := 26, nameIndex := 77, descriptorIndex := 18, attributes := #[] }, { accessFlags := 18, nameIndex := 17, descriptorIndex := 18, attributes := #[] }, { accessFlags := 18, nameIndex := 21, descriptorIndex := 18, attributes := #[] }, { accessFlags := 2, nameIndex := 26, descriptorIndex := 18, attributes := #[] }, { accessFlags := 2, nameIndex := 31, descriptorIndex := 18, attributes := #[] }, { accessFlags := 2, nameIndex := 36, descriptorIndex := 18, attributes := #[] }, { accessFlags := 2, nameIndex := 41, descriptorIndex := 18, attributes := #[] }, { accessFlags := 2, nameIndex := 44, descriptorIndex := 18, attributes := #[] }, { accessFlags := 2, nameIndex := 47, descriptorIndex := 48, attributes := #[] }])
  fields := #[{ name := "INIT0", type := .long, accessFlags := 26, slot := 0, constantValue := 0 }, { name := "INIT1", type := .long, accessFlags := 26, slot := 1, constantValue := 0 }, { name := "INIT2", type := .long, accessFlags := 26, slot := 2, constantValue := 0 }, { name := "INIT3", type := .long, accessFlags := 26, slot := 3, constantValue := 0 }, { name := "WORD_ROUNDS", type := .int, accessFlags := 26, slot := 4, constantValue := 0 }, { name := "FINAL_ROUNDS", type := .int, accessFlags := 26, slot := 5, constantValue := 0 }, { name := "CHARS_PER_WORD", type := .int, accessFlags := 26, slot := 6, constantValue := 0 }, { name := "LENGTH_SHIFT", type := .int, accessFlags := 26, slot := 7, constantValue := 0 }, { name := "FINAL_MARK", type := .long, accessFlags := 26, slot := 8, constantValue := 0 }, { name := "key0", type := .long, accessFlags := 18, slot := 0, constantValue := 0 }, { name := "key1", type := .long, accessFlags := 18, slot := 1, constantValue := 0 }, { name := "v0", type := .long, accessFlags := 2, slot := 2, constantValue := 0 }, { name := "v1", type := .long, accessFlags := 2, slot := 3, constantValue := 0 }, { name := "v2", type := .long, accessFlags := 2, slot := 4, constantValue := 0 }, { name := "v3", type := .long, accessFlags := 2, slot := 5, constantValue := 0 }, { name := "word", type := .long, accessFlags := 2, slot := 6, constantValue := 0 }, { name := "length", type := .int, accessFlags := 2, slot := 7, constantValue := 0 }]
  methods := #[k2m0, k2m1, k2m2, k2m3, k2m4, k2m5]
  instanceTypes := #[.long, .long, .long, .long, .long, .long, .long, .int]
  staticTypes := #[.long, .long, .long, .long, .int, .int, .int, .int, .long]
  resolved := Array.replicate 89 none
  statics := none }

def pool3 : Array CpInfo := pool [(1, .class_ 2), (0, u "java/io/Serializable"), (0, .class_ 4), (0, u "java/lang/Object")] 2

/-- java/io/Serializable -/
def k3 : Class := { plain "java/io/Serializable" (some 0) with
  accessFlags := 1537
  interfaces := #[]
  cf := some (fileOf pool3 1 #[] #[] 1537 3 #[] #[])
  fields := #[]
  methods := #[]
  instanceTypes := #[]
  staticTypes := #[]
  resolved := Array.replicate 7 none
  statics := none }

def pool4 : Array CpInfo := pool [(2, .class_ 4), (1, u "java/lang/Object"), (0, u "<init>"), (0, u "()V"), (1, .class_ 10), (1, u "java/lang/Number"), (2, .class_ 14), (0, u "java/io/Serializable"), (0, u "serialVersionUID"), (0, u "J")] 20

def k4m0 : Method := { name := "<init>", desc := "()V", sig := { parameters := [], returnType := none }, accessFlags := 1, code := none }
/-- java/lang/Number -/
def k4 : Class := { plain "java/lang/Number" (some 0) with
  accessFlags := 1057
  interfaces := #[3]
  cf := some (fileOf pool4 8 #[] #[{ accessFlags := 1, nameIndex := 5, descriptorIndex := 6, attributes := #[] }] 1057 2 #[13] #[{ accessFlags := 26, nameIndex := 15, descriptorIndex := 16, attributes := #[] }])
  fields := #[{ name := "serialVersionUID", type := .long, accessFlags := 26, slot := 0, constantValue := 0 }]
  methods := #[k4m0]
  instanceTypes := #[]
  staticTypes := #[.long]
  resolved := Array.replicate 37 none
  statics := none }

def pool5 : Array CpInfo := pool [(1, .class_ 2), (0, u "java/lang/Comparable"), (0, .class_ 4), (0, u "java/lang/Object")] 7

/-- java/lang/Comparable -/
def k5 : Class := { plain "java/lang/Comparable" (some 0) with
  accessFlags := 1537
  interfaces := #[]
  cf := some (fileOf pool5 1 #[] #[] 1537 3 #[] #[])
  fields := #[]
  methods := #[]
  instanceTypes := #[]
  staticTypes := #[]
  resolved := Array.replicate 12 none
  statics := none }

def pool6 : Array CpInfo := pool [(1, .class_ 2), (0, u "java/lang/constant/Constable"), (0, .class_ 4), (0, u "java/lang/Object")] 6

/-- java/lang/constant/Constable -/
def k6 : Class := { plain "java/lang/constant/Constable" (some 0) with
  accessFlags := 1537
  interfaces := #[]
  cf := some (fileOf pool6 1 #[] #[] 1537 3 #[] #[])
  fields := #[]
  methods := #[]
  instanceTypes := #[]
  staticTypes := #[]
  resolved := Array.replicate 11 none
  statics := none }

def pool7 : Array CpInfo := pool [(1, .class_ 2), (0, u "java/lang/constant/ConstantDesc"), (0, .class_ 4), (0, u "java/lang/Object")] 32

/-- java/lang/constant/ConstantDesc -/
def k7 : Class := { plain "java/lang/constant/ConstantDesc" (some 0) with
  accessFlags := 1537
  interfaces := #[]
  cf := some (fileOf pool7 1 #[] #[] 1537 3 #[] #[])
  fields := #[]
  methods := #[]
  instanceTypes := #[]
  staticTypes := #[]
  resolved := Array.replicate 37 none
  statics := none }

def pool8 : Array CpInfo := pool [(1, .class_ 2), (0, u "java/lang/Long"), (232, .class_ 237), (1, u "java/lang/Long$LongCache"), (33, .class_ 272), (0, u "java/lang/Number"), (2, u "value"), (0, u "J"), (84, u "TYPE"), (0, u "Ljava/lang/Class;"), (0, .class_ 364), (0, u "java/lang/Comparable"), (0, .class_ 366), (0, u "java/lang/constant/Constable"), (0, .class_ 368), (0, u "java/lang/constant/ConstantDesc"), (0, u "MIN_VALUE"), (1, u "MAX_VALUE"), (4, u "SIZE"), (0, u "I"), (1, u "BYTES"), (1, u "serialVersionUID"), (95, u "rotateLeft"), (0, u "(JI)J")] 45

def k8c0 : Code := { maxStack := 5, maxLocals := 3, code := jdk_35_method_51_code, exceptionTable := #[], attributes := #[] }
def k8m0 : Method := { name := "rotateLeft", desc := "(JI)J", sig := { parameters := [.long, .int], returnType := some .long }, accessFlags := 9, code := some k8c0 }
/-- java/lang/Long -/
def k8 : Class := { plain "java/lang/Long" (some 4) with
  accessFlags := 49
  interfaces := #[5, 6, 7]
  cf := some (fileOf pool8 1 #[.nestMembers #[235]] #[{ accessFlags := 9, nameIndex := 477, descriptorIndex := 478, attributes := #[] }] 49 271 #[363, 365, 367] #[{ accessFlags := 25, nameIndex := 369, descriptorIndex := 276, attributes := #[] }, { accessFlags := 25, nameIndex := 371, descriptorIndex := 276, attributes := #[] }, { accessFlags := 25, nameIndex := 361, descriptorIndex := 362, attributes := #[] }, { accessFlags := 18, nameIndex := 275, descriptorIndex := 276, attributes := #[] }, { accessFlags := 25, nameIndex := 376, descriptorIndex := 377, attributes := #[] }, { accessFlags := 25, nameIndex := 379, descriptorIndex := 377, attributes := #[] }, { accessFlags := 26, nameIndex := 381, descriptorIndex := 276, attributes := #[] }])
  fields := #[{ name := "MIN_VALUE", type := .long, accessFlags := 25, slot := 0, constantValue := 0 }, { name := "MAX_VALUE", type := .long, accessFlags := 25, slot := 1, constantValue := 0 }, { name := "TYPE", type := (.object "java/lang/Class"), accessFlags := 25, slot := 2, constantValue := 0 }, { name := "value", type := .long, accessFlags := 18, slot := 0, constantValue := 0 }, { name := "SIZE", type := .int, accessFlags := 25, slot := 3, constantValue := 0 }, { name := "BYTES", type := .int, accessFlags := 25, slot := 4, constantValue := 0 }, { name := "serialVersionUID", type := .long, accessFlags := 26, slot := 5, constantValue := 0 }]
  methods := #[k8m0]
  instanceTypes := #[.long]
  staticTypes := #[.long, .long, (.object "java/lang/Class"), .int, .int, .long]
  resolved := Array.replicate 524 none
  statics := none }

def pool9 : Array CpInfo := pool [(1, u "java/lang/Cloneable"), (0, .class_ 1), (0, u "java/lang/Object"), (0, .class_ 3)] 3

/-- java/lang/Cloneable -/
def k9 : Class := { plain "java/lang/Cloneable" (some 0) with
  accessFlags := 1537
  interfaces := #[]
  cf := some (fileOf pool9 2 #[] #[] 1537 4 #[] #[])
  fields := #[]
  methods := #[]
  instanceTypes := #[]
  staticTypes := #[]
  resolved := Array.replicate 8 none
  statics := none }

/-- the primitive byte -/
def k10 : Class := { plain "byte" none with kind := .primitive 'B', accessFlags := 0x411 }
/-- [B -/
def k11 : Class := { plain "[B" (some 0) with kind := .array 10 .byte, interfaces := #[9, 3], accessFlags := 1041 }

/-- the primitive int -/
def k12 : Class := { plain "int" none with kind := .primitive 'I', accessFlags := 0x411 }
/-- [I -/
def k13 : Class := { plain "[I" (some 0) with kind := .array 12 .int, interfaces := #[9, 3], accessFlags := 1041 }

def heap : Heap := #[]
def classes : Array Class := #[k0, k1, k2, k3, k4, k5, k6, k7, k8, k9, k10, k11, k12, k13]
def interned : List (Array UInt16 × Addr) := []
def slotsUsed : Nat := 0
def theMethod : MethodId := ⟨1, 2⟩
def args0 : Array Value := #[.long 5, .long 6, .long 7, .long 8, .int 9]
def aboutOver (below : List Frame) : State where
  vm := { classes := classes, interned := interned.toArray }
  heap := heap
  slotsUsed := slotsUsed
  threads := #[{ frames := .invoking theMethod args0 :: below }]
def below0 : List Frame := [.native { method := ⟨0, 0⟩, args := #[] }]
def about1 : State := aboutOver below0
def p0 : Program := .bare "" "" ""
def e0 : Env := launch0.env 0 0 0
theorem w_frames : about1.frames = Frame.invoking theMethod args0 :: below0 := rfl
set_option maxRecDepth 65536 in
theorem w_args : argsFit about1.vm theMethod args0 = true := by decide +kernel
set_option maxRecDepth 65536 in
theorem w_heap : heapFits about1 = true := by decide +kernel
set_option maxRecDepth 65536 in
theorem w_runnable : about1.curStatus? = some .runnable := by decide +kernel
set_option maxRecDepth 65536 in
theorem w_alone : about1.alone = true := by decide +kernel
set_option maxRecDepth 65536 in
theorem w_named : about1.methodNamed? x = some theMethod := by decide +kernel
set_option maxRecDepth 65536 in
theorem w_hears : about1.hears theMethod below0 = true := by decide +kernel
set_option maxRecDepth 65536 in
theorem w_ripe : about1.ripe theMethod args0 below0 = true := by decide +kernel
theorem w_running : about1.status = .running := rfl
set_option maxRecDepth 65536 in
theorem w_room : about1.hasRoom e0.platform room_1 = true :=
  launch0.hasRoom_least _ room_1 (by decide +kernel) (by decide +kernel) (by decide +kernel) (by decide +kernel) (by decide +kernel) (by decide +kernel)
theorem allAtoms_all (ts : List Jvm.Cond) (a : Array Jvm.Value) (st : Jvm.State) : (allAtoms ts).before a st = ts.all (fun c => c.before a st) := by
  induction ts with
  | nil => rfl
  | cons c t ih =>
    show (Jvm.Cond.and c (allAtoms t)).before a st = _
    rw [Jvm.Cond.before_and, ih, List.all_cons]
def words1 : List Jvm.Cond := Jvm.Cond.code x code maxLocals ret :: tables_1
/-- a 'code' word, met by the world's own term for the bytes: nothing is compared byte by byte -/
theorem code_word {y : MethodName} {bytes : ByteArray} {mx : Nat} {rt : Option FieldType} {a : Array Value} {s : State} {m : MethodId} {meth : Method} {c : Code} (h1 : s.methodNamed? y = some m) (h2 : s.vm.method? m = some meth) (h3 : meth.code = some c) (h4 : c.code = bytes)
    (h5 : (c.maxLocals == mx && c.exceptionTable.isEmpty && decide (c.maxStack ≤ mostOperands) && decide (meth.sig.returnType = rt) && !meth.locks && decide (parseMethodDescriptor y.desc = some meth.sig)) = true) : (Jvm.Cond.code y bytes mx rt).before a s = true := by
  simp only [Bool.and_eq_true, beq_iff_eq, Bool.not_eq_true', decide_eq_true_eq] at h5
  obtain ⟨⟨⟨⟨⟨g1, g2⟩, g3⟩, g4⟩, g5⟩, g6⟩ := h5
  simp [Cond.before, Cond.holds, Cond.value, h1, h2, h3, h4, g1, g2, g3, g4, g5, g6]
def isCode : Jvm.Cond → Bool
  | .code _ _ _ _ => true
  | _ => false
theorem all_split {L : List Jvm.Cond} {P : Jvm.Cond → Bool} (h1 : L.all (fun c => isCode c || P c) = true) (h2 : ∀ c ∈ L.filter isCode, P c = true) : L.all P = true := by
  refine List.all_eq_true.mpr fun c hc => ?_
  have h := List.all_eq_true.mp h1 c hc
  rcases Bool.eq_false_or_eq_true (isCode c) with hi | hi
  · exact h2 c (List.mem_filter.mpr ⟨hc, hi⟩)
  · simpa [hi] using h
set_option maxRecDepth 65536 in
theorem w_c0 : (Jvm.Cond.code x code maxLocals ret).before args0 about1 = true := code_word (m := ⟨1, 2⟩) (meth := k1m2) (c := k1c2) (by decide +kernel) rfl rfl rfl (by decide +kernel)
set_option maxRecDepth 65536 in
theorem w_c1 : (Jvm.Cond.code ({ cls := "com/example/tranche/tranche/io/SipHash", name := "<init>", desc := "(JJ)V" } : Jvm.MethodName) prog_76_method_1_code (5 : Nat) (Option.none : Option Jvm.ClassFile.FieldType)).before args0 about1 = true := code_word (m := ⟨2, 0⟩) (meth := k2m0) (c := k2c0) (by decide +kernel) rfl rfl rfl (by decide +kernel)
set_option maxRecDepth 65536 in
theorem w_c2 : (Jvm.Cond.code ({ cls := "java/lang/Object", name := "<init>", desc := "()V" } : Jvm.MethodName) object_method_1_code (1 : Nat) (Option.none : Option Jvm.ClassFile.FieldType)).before args0 about1 = true := code_word (m := ⟨0, 0⟩) (meth := k0m0) (c := k0c0) (by decide +kernel) rfl rfl rfl (by decide +kernel)
set_option maxRecDepth 65536 in
theorem w_c3 : (Jvm.Cond.code ({ cls := "com/example/tranche/tranche/io/SipHash", name := "start", desc := "()V" } : Jvm.MethodName) prog_76_method_2_code (1 : Nat) (Option.none : Option Jvm.ClassFile.FieldType)).before args0 about1 = true := code_word (m := ⟨2, 1⟩) (meth := k2m1) (c := k2c1) (by decide +kernel) rfl rfl rfl (by decide +kernel)
set_option maxRecDepth 65536 in
theorem w_c4 : (Jvm.Cond.code ({ cls := "com/example/tranche/tranche/io/SipHashStartPinLaw", name := "feed", desc := "(Lcom/example/tranche/tranche/io/SipHash;JI)V" } : Jvm.MethodName) method_2_code (4 : Nat) (Option.none : Option Jvm.ClassFile.FieldType)).before args0 about1 = true := code_word (m := ⟨1, 1⟩) (meth := k1m1) (c := k1c1) (by decide +kernel) rfl rfl rfl (by decide +kernel)
set_option maxRecDepth 65536 in
theorem w_c5 : (Jvm.Cond.code ({ cls := "com/example/tranche/tranche/io/SipHash", name := "add", desc := "(C)V" } : Jvm.MethodName) prog_76_method_3_code (2 : Nat) (Option.none : Option Jvm.ClassFile.FieldType)).before args0 about1 = true := code_word (m := ⟨2, 2⟩) (meth := k2m2) (c := k2c2) (by decide +kernel) rfl rfl rfl (by decide +kernel)
set_option maxRecDepth 65536 in
theorem w_c6 : (Jvm.Cond.code ({ cls := "com/example/tranche/tranche/io/SipHash", name := "finish", desc := "()J" } : Jvm.MethodName) prog_76_method_4_code (2 : Nat) (Option.some Jvm.ClassFile.FieldType.long)).before args0 about1 = true := code_word (m := ⟨2, 3⟩) (meth := k2m3) (c := k2c3) (by decide +kernel) rfl rfl rfl (by decide +kernel)
set_option maxRecDepth 65536 in
theorem w_c7 : (Jvm.Cond.code ({ cls := "com/example/tranche/tranche/io/SipHash", name := "compress", desc := "(J)V" } : Jvm.MethodName) prog_76_method_5_code (4 : Nat) (Option.none : Option Jvm.ClassFile.FieldType)).before args0 about1 = true := code_word (m := ⟨2, 4⟩) (meth := k2m4) (c := k2c4) (by decide +kernel) rfl rfl rfl (by decide +kernel)
set_option maxRecDepth 65536 in
theorem w_c8 : (Jvm.Cond.code ({ cls := "com/example/tranche/tranche/io/SipHash", name := "round", desc := "()V" } : Jvm.MethodName) prog_76_method_6_code (1 : Nat) (Option.none : Option Jvm.ClassFile.FieldType)).before args0 about1 = true := code_word (m := ⟨2, 5⟩) (meth := k2m5) (c := k2c5) (by decide +kernel) rfl rfl rfl (by decide +kernel)
set_option maxRecDepth 65536 in
theorem w_c9 : (Jvm.Cond.code ({ cls := "java/lang/Long", name := "rotateLeft", desc := "(JI)J" } : Jvm.MethodName) jdk_35_method_51_code (3 : Nat) (Option.some Jvm.ClassFile.FieldType.long)).before args0 about1 = true := code_word (m := ⟨8, 0⟩) (meth := k8m0) (c := k8c0) (by decide +kernel) rfl rfl rfl (by decide +kernel)
def codes1 : List Jvm.Cond := [Jvm.Cond.code x code maxLocals ret, Jvm.Cond.code ({ cls := "com/example/tranche/tranche/io/SipHash", name := "<init>", desc := "(JJ)V" } : Jvm.MethodName) prog_76_method_1_code (5 : Nat) (Option.none : Option Jvm.ClassFile.FieldType), Jvm.Cond.code ({ cls := "java/lang/Object", name := "<init>", desc := "()V" } : Jvm.MethodName) object_method_1_code (1 : Nat) (Option.none : Option Jvm.ClassFile.FieldType), Jvm.Cond.code ({ cls := "com/example/tranche/tranche/io/SipHash", name := "start", desc := "()V" } : Jvm.MethodName) prog_76_method_2_code (1 : Nat) (Option.none : Option Jvm.ClassFile.FieldType), Jvm.Cond.code ({ cls := "com/example/tranche/tranche/io/SipHashStartPinLaw", name := "feed", desc := "(Lcom/example/tranche/tranche/io/SipHash;JI)V" } : Jvm.MethodName) method_2_code (4 : Nat) (Option.none : Option Jvm.ClassFile.FieldType), Jvm.Cond.code ({ cls := "com/example/tranche/tranche/io/SipHash", name := "add", desc := "(C)V" } : Jvm.MethodName) prog_76_method_3_code (2 : Nat) (Option.none : Option Jvm.ClassFile.FieldType), Jvm.Cond.code ({ cls := "com/example/tranche/tranche/io/SipHash", name := "finish", desc := "()J" } : Jvm.MethodName) prog_76_method_4_code (2 : Nat) (Option.some Jvm.ClassFile.FieldType.long), Jvm.Cond.code ({ cls := "com/example/tranche/tranche/io/SipHash", name := "compress", desc := "(J)V" } : Jvm.MethodName) prog_76_method_5_code (4 : Nat) (Option.none : Option Jvm.ClassFile.FieldType), Jvm.Cond.code ({ cls := "com/example/tranche/tranche/io/SipHash", name := "round", desc := "()V" } : Jvm.MethodName) prog_76_method_6_code (1 : Nat) (Option.none : Option Jvm.ClassFile.FieldType), Jvm.Cond.code ({ cls := "java/lang/Long", name := "rotateLeft", desc := "(JI)J" } : Jvm.MethodName) jdk_35_method_51_code (3 : Nat) (Option.some Jvm.ClassFile.FieldType.long)]
set_option maxRecDepth 65536 in
theorem codes_eq : words1.filter isCode = codes1 := rfl
theorem w_codes : ∀ c ∈ words1.filter isCode, c.before args0 about1 = true := by
  rw [codes_eq]
  intro c hc
  simp only [codes1, List.mem_cons, List.not_mem_nil, or_false] at hc
  rcases hc with rfl | rfl | rfl | rfl | rfl | rfl | rfl | rfl | rfl | rfl
  · exact w_c0
  · exact w_c1
  · exact w_c2
  · exact w_c3
  · exact w_c4
  · exact w_c5
  · exact w_c6
  · exact w_c7
  · exact w_c8
  · exact w_c9
set_option maxRecDepth 65536 in
theorem w_t1 : (words1.take 24).all (fun c => isCode c || c.before args0 about1) = true := by decide +kernel
set_option maxRecDepth 65536 in
theorem w_t2 : ((words1.drop 24).take 24).all (fun c => isCode c || c.before args0 about1) = true := by decide +kernel
set_option maxRecDepth 65536 in
theorem w_t3 : ((words1.drop 24).drop 24).all (fun c => isCode c || c.before args0 about1) = true := by decide +kernel
theorem w_tables : (allAtoms (Jvm.Cond.code x code maxLocals ret :: tables_1)).before args0 about1 = true := by
  rw [allAtoms_all]
  show words1.all (fun c => c.before args0 about1) = true
  refine all_split ?_ w_codes
  rw [← List.take_append_drop 24 words1, List.all_append, w_t1, ← List.take_append_drop 24 (words1.drop 24), List.all_append, w_t2, w_t3]
  rfl
set_option maxRecDepth 65536 in
theorem w_case : (Jvm.Cond.and given_1 narrow_1).before args0 about1 = true := by decide +kernel
theorem w_applies : (headSpec (Jvm.Cond.code x code maxLocals ret :: tables_1) room_1).applies x e0.platform about1 = true :=
  (Spec.applies_iff w_frames).mpr ⟨w_running, w_runnable, w_alone, w_named, w_hears, w_ripe, w_room, w_tables⟩
theorem atStart : AtStart classFile x code maxLocals ret World_1 tables_1 room_1 Calls_1 rest_1 Pre_1 launch0 p0 e0 about1 theMethod args0 below0 :=
  ⟨lists_1, trivial, launch0.admits_env _ _ _, launch0.least_env, fairChoices_fair.cas, fairChoices_fair.clock, w_frames, w_args, w_heap, w_applies, trivial, trivial, w_case⟩
end start1
theorem witness_1 : WitnessClaimed_1 := ⟨start1.p0, start1.e0, start1.about1, start1.theMethod, start1.args0, start1.below0, start1.atStart⟩
end Jvm.Pilot.@@N@@
