import JvmDerived
import JvmDerived.Pilot.@@N@@Statement
import JvmDerived.Pilot.@@N@@Code
set_option linter.unusedVariables false
set_option linter.unusedSimpArgs false
namespace Jvm.Pilot.@@N@@
open Jvm Jvm.ClassFile Sem Op Lib Jvm.Free Jvm.Stand Jvm.LawKit Jvm.RoadKit Bundle Jvm.Pilot.@@N@@.Jvm.D
def own_fits (held size b : Int64) : Int32 := if size < (held + b) then 0 else 1
theorem own_same (q1 q2 q3 q4 : Int64) (p5 : Int32) (by_ : Int64) (hb : by_ = (if (p5 &&& (3 : Int32)) = (3 : Int32) then (q4 >>> ((2 : Int32) &&& 0x3f).toInt64) else (((q1 >>> ((2 : Int32) &&& 0x3f).toInt64) - ((q2 >>> ((3 : Int32) &&& 0x3f).toInt64) + (q3 >>> ((3 : Int32) &&& 0x3f).toInt64))) + (((p5 &&& (3 : Int32)) - (1 : Int32)).toInt64)))) :
    ((q1 >>> ((2 : Int32) &&& 0x3f).toInt64) < ((((0 : Int64) + (q2 >>> ((3 : Int32) &&& 0x3f).toInt64)) + (q3 >>> ((3 : Int32) &&& 0x3f).toInt64)) + by_)) ↔ ((((q1 >>> ((2 : Int32) &&& 0x3f).toInt64) - ((q2 >>> ((3 : Int32) &&& 0x3f).toInt64) + (q3 >>> ((3 : Int32) &&& 0x3f).toInt64))) - by_) < (0 : Int64)) := by
  have s1 := c_lshr q1 (2 : Int32) 2 (by decide)
  have s2 := c_lshr q2 (3 : Int32) 3 (by decide)
  have s3 := c_lshr q3 (3 : Int32) 3 (by decide)
  have s4 := c_lshr q4 (2 : Int32) 2 (by decide)
  have r1 := rng64 q1
  have r2 := rng64 q2
  have r3 := rng64 q3
  have r4 := rng64 q4
  have m1 := c_mask p5 (3 : Int32) 2 (by decide) (by decide)
  generalize (q1 >>> ((2 : Int32) &&& 0x3f).toInt64) = sz at *
  generalize (q2 >>> ((3 : Int32) &&& 0x3f).toInt64) = fi at *
  generalize (q3 >>> ((3 : Int32) &&& 0x3f).toInt64) = se at *
  generalize (q4 >>> ((2 : Int32) &&& 0x3f).toInt64) = cc at *
  generalize (p5 &&& (3 : Int32)) = md at *
  have e1 : (1 : Int32).toInt = 1 := by decide
  have e0 : (0 : Int64).toInt = 0 := by decide
  have a1 := c_isub md (1 : Int32)
  have a2 := rng32 (md - (1 : Int32))
  have a3 := c_i2l (md - (1 : Int32))
  have a4 := c_ladd fi se
  have a5 := rng64 (fi + se)
  have a6 := c_lsub sz (fi + se)
  have a7 := rng64 (sz - (fi + se))
  have a8 := c_ladd (sz - (fi + se)) ((md - (1 : Int32)).toInt64)
  have a9 := rng64 ((sz - (fi + se)) + ((md - (1 : Int32)).toInt64))
  have b1 := c_ladd (0 : Int64) fi
  have b2 := rng64 ((0 : Int64) + fi)
  have b3 := c_ladd ((0 : Int64) + fi) se
  have b4 := rng64 (((0 : Int64) + fi) + se)
  have b5 := c_ladd (((0 : Int64) + fi) + se) by_
  have b6 := rng64 ((((0 : Int64) + fi) + se) + by_)
  have b7 := c_lsub (sz - (fi + se)) by_
  have b8 := rng64 ((sz - (fi + se)) - by_)
  rw [e1] at a1
  rw [e0] at b1
  rw [Int64.lt_iff_toInt_lt, Int64.lt_iff_toInt_lt, e0]
  by_cases h3 : md = (3 : Int32)
  · rw [if_pos h3] at hb
    rw [hb] at b5 b6 b7 b8 ⊢
    omega
  · rw [if_neg h3] at hb
    rw [hb] at b5 b6 b7 b8 ⊢
    omega
theorem own_djdk_71_1_0 : decode jdk_71_method_1_code 0 = .ok (.aload_n 0, 1) := by decide +kernel
theorem own_djdk_71_1_1 : decode jdk_71_method_1_code 1 = .ok (.invokespecial 1, 3) := by decide +kernel
theorem own_djdk_71_1_4 : decode jdk_71_method_1_code 4 = .ok (.return_, 1) := by decide +kernel
theorem own_pn_java_util_AbstractMap : plainName "java/util/AbstractMap" = true := by first | (simp [plainName, overriddenIn]; done) | decide +kernel
theorem own_ef_am (m : MethodId) (x0 : Addr) : entryFrame m #[(.ref x0)] 1 = mkF m 0 #[.val (.ref x0)] [] := by first | (simp [entryFrame, mkF, argsToLocals, Value.category]; done) | rfl
def Q_am (Z : State) (a1 : Addr) (h0 : Heap) (n0 : Nat) (v : Option Value) (h : Heap) (L : List Loc) : Prop := v = none ∧ Fr n0 L ∧ h = h0
set_option maxRecDepth 65536 in
set_option maxHeartbeats 40000000 in
theorem rm_am (l : Launch) (Z : State) (a0 : Array Value) (hw : ∀ d ∈ tables_1, d.before a0 Z = true) (ws : List Jvm.Cond) (a1 : Addr) (h0 : Heap) (n0 : Nat) (Z0 : n0 ≤ h0.size)  :
    MetFree l (⟨"java/util/AbstractMap", "<init>", "()V"⟩ : MethodName) (head1 (Jvm.Cond.code (⟨"java/util/AbstractMap", "<init>", "()V"⟩ : MethodName) jdk_71_method_1_code 1 none :: ws) ({ frames := 1, cells := 0, slots := 0, locals := 12 } : Room)) (fun a U => a = #[(.ref a1)] ∧ Z.Warmed39 U.vm ∧ U.heap = h0) (fun _ _ _ _ _ => True) (fun _ U o U' => ∃ v L, o = .returned v ∧ Q_am Z a1 h0 n0 v U'.heap L ∧ FrameEnd U o U' L ({ frames := 1, cells := 0, slots := 0, locals := 12 } : Room).cells ({ frames := 1, cells := 0, slots := 0, locals := 12 } : Room).slots) := by
  refine MetFree.of_bodySF (plainFor_of_name own_pn_java_util_AbstractMap) hisR ?_
  intro p e s m args below meth c s₁ Bd hml0 hP hK
  obtain ⟨rfl, hZ, hh⟩ := hP
  have hx := Bd.exec
  have hby := Bd.bytes
  have hml : c.maxLocals = 1 := hml0
  have hown : s.vm.findClass "java/util/AbstractMap" = some m.cls := findClass_of_methodNamed Bd.named
  have hnm := (name_of_methodNamed Bd.named Bd.method).1
  have X0 : Stand p l e ({ frames := 1, cells := 0, slots := 0, locals := 12 } : Room) s m #[(.ref a1)] below meth c s₁ [] 0 0 := Stand.of_body Bd
  have e0 : s₁.heap = h0 := by rw [← hh, Bd.state]; rfl
  have N0 := Fr.nil n0
  have pre0 : ∀ t, Steps p.tables e below (s₁.setTop (mkF m 0 #[.val (.ref a1)] [])) t → Steps p.tables e below (s₁.setTop (entryFrame m #[(.ref a1)] 1)) t := fun t k => castTop (own_ef_am m a1) k
  obtain ⟨T1, X1, e1, st1⟩ := initO X0 hx hZ hown (hw _ (List.mem_of_getElem? (i := 21) rfl)) (hw _ (List.mem_of_getElem? (i := 7) rfl)) (hw _ (List.mem_of_getElem? (i := 8) rfl)) e0 (g := (mkF m 1 #[.val (.ref a1)] [(.ref a1)])) rfl (by rw [hml]; rfl) rfl (hb hby own_djdk_71_1_1) (by decide) (W := 0) (by show 2 * 0 + _ ≤ _; exact Nat.le_of_eq rfl) (by decide)
  obtain ⟨fs, hr, hrun, hended, hW, hsame⟩ := X1.leave (v := none) (fun _ => rfl)
  refine ⟨_, _, pre0 _ ?_, hrun, hended, _, _, rfl, ?_, ⟨_, rfl⟩, hW, hsame.mono (by decide) (by decide)⟩
  · show Steps p.tables e below (s₁.setTop (mkF m 0 #[.val (.ref a1)] [])) _
    refine XS.aloadN X0.here hx rfl (hb hby own_djdk_71_1_0) rfl rfl ?_
    show Steps p.tables e below (s₁.setTop (mkF m 1 #[.val (.ref a1)] [(.ref a1)])) _
    refine st1 _ ?_
    show Steps p.tables e below (T1.setTop (mkF m 4 #[.val (.ref a1)] [])) _
    exact X1.returnOut hx Bd.returns (hb hby own_djdk_71_1_4) hr
  · show Q_am Z a1 h0 n0 _ T1.heap _
    rw [e1]
    exact ⟨rfl, N0, rfl⟩
theorem own_djdk_2581_6_0 : decode jdk_2581_method_6_code 0 = .ok (.aload_n 0, 1) := by decide +kernel
theorem own_djdk_2581_6_1 : decode jdk_2581_method_6_code 1 = .ok (.iconst 2, 1) := by decide +kernel
theorem own_djdk_2581_6_2 : decode jdk_2581_method_6_code 2 = .ok (.iload_n 1, 1) := by decide +kernel
theorem own_djdk_2581_6_3 : decode jdk_2581_method_6_code 3 = .ok (.imul, 1) := by decide +kernel
theorem own_djdk_2581_6_4 : decode jdk_2581_method_6_code 4 = .ok (.anewarray 49, 3) := by decide +kernel
theorem own_djdk_2581_6_7 : decode jdk_2581_method_6_code 7 = .ok (.putfield 51, 3) := by decide +kernel
theorem own_djdk_2581_6_10 : decode jdk_2581_method_6_code 10 = .ok (.return_, 1) := by decide +kernel
theorem own_pn_java_util_IdentityHashMap : plainName "java/util/IdentityHashMap" = true := by first | (simp [plainName, overriddenIn]; done) | decide +kernel
theorem own_ef_imi (m : MethodId) (x0 : Addr) (x1 : Int32) : entryFrame m #[(.ref x0), (.int x1)] 2 = mkF m 0 #[.val (.ref x0), .val (.int x1)] [] := by first | (simp [entryFrame, mkF, argsToLocals, Value.category]; done) | rfl
def Q_imi (Z : State) (a1 : Addr) (p2 : Int32) (u1 : Value) (h0 : Heap) (n0 : Nat) (v : Option Value) (h : Heap) (L : List Loc) : Prop := v = none ∧ Fr n0 L ∧ Keep h0 h [a1]
set_option maxRecDepth 65536 in
set_option maxHeartbeats 40000000 in
theorem rm_imi (l : Launch) (Z : State) (a0 : Array Value) (hw : ∀ d ∈ tables_1, d.before a0 Z = true) (ws : List Jvm.Cond) (a1 : Addr) (p2 : Int32) (u1 : Value) (h0 : Heap) (n0 : Nat) (Z0 : n0 ≤ h0.size) (hp : p2 = (32 : Int32)) (E : Exa Z h0 a1 "java/util/IdentityHashMap") (F : Fld Z h0 a1 "java/util/IdentityHashMap" "table" "[Ljava/lang/Object;" u1) (g : n0 ≤ a1) :
    MetFree l (⟨"java/util/IdentityHashMap", "init", "(I)V"⟩ : MethodName) (head1 (Jvm.Cond.code (⟨"java/util/IdentityHashMap", "init", "(I)V"⟩ : MethodName) jdk_2581_method_6_code 2 none :: ws) ({ frames := 0, cells := 1, slots := 64, locals := 0 } : Room)) (fun a U => a = #[(.ref a1), (.int p2)] ∧ Z.Warmed39 U.vm ∧ U.heap = h0) (fun _ _ _ _ _ => True) (fun _ U o U' => ∃ v L, o = .returned v ∧ Q_imi Z a1 p2 u1 h0 n0 v U'.heap L ∧ FrameEnd U o U' L ({ frames := 0, cells := 1, slots := 64, locals := 0 } : Room).cells ({ frames := 0, cells := 1, slots := 64, locals := 0 } : Room).slots) := by
  refine MetFree.of_bodySF (plainFor_of_name own_pn_java_util_IdentityHashMap) hisR ?_
  intro p e s m args below meth c s₁ Bd hml0 hP hK
  obtain ⟨rfl, hZ, hh⟩ := hP
  have hx := Bd.exec
  have hby := Bd.bytes
  have hml : c.maxLocals = 2 := hml0
  have hown : s.vm.findClass "java/util/IdentityHashMap" = some m.cls := findClass_of_methodNamed Bd.named
  have hnm := (name_of_methodNamed Bd.named Bd.method).1
  have X0 : Stand p l e ({ frames := 0, cells := 1, slots := 64, locals := 0 } : Room) s m #[(.ref a1), (.int p2)] below meth c s₁ [] 0 0 := Stand.of_body Bd
  have e0 : s₁.heap = h0 := by rw [← hh, Bd.state]; rfl
  have N0 := Fr.nil n0
  have pre0 : ∀ t, Steps p.tables e below (s₁.setTop (mkF m 0 #[.val (.ref a1), .val (.int p2)] [])) t → Steps p.tables e below (s₁.setTop (entryFrame m #[(.ref a1), (.int p2)] 2)) t := fun t k => castTop (own_ef_imi m a1 p2) k
  obtain ⟨T1, h1, k1, X1, e1, E1, A1, O1, st1⟩ := newR X0 hx hZ hown (hw _ (List.mem_of_getElem? (i := 27) rfl)) (hw _ (List.mem_of_getElem? (i := 28) rfl)) e0 (g := (mkF m 4 #[.val (.ref a1), .val (.int p2)] [(.int ((2 : Int32) * p2)), (.ref a1)])) rfl (hb hby own_djdk_2581_6_4) rfl (by rw [hp]; decide) (cap := 64) (by rw [hp]; decide) (by decide) (by decide) (by decide)
  obtain ⟨b, g1⟩ : ∃ z, z = h0.size := ⟨_, rfl⟩
  rw [← g1] at A1 st1
  have gn_b : n0 ≤ b := Nat.le_trans Z0 (Nat.le_of_eq g1.symm)
  have sz1 : n0 ≤ h1.size := Nat.le_trans Z0 E1.1
  have Xe1 := E1
  obtain ⟨T2, h2, X2, e2, W2, st2⟩ := putF X1 hx hZ hown (host := "") (Or.inl (hw _ (List.mem_of_getElem? (i := 29) rfl))) Via.refl e1 (F.ext Xe1) (E.ext Xe1) (Or.inl (hw _ (List.mem_of_getElem? (i := 30) rfl))) (hw _ (List.mem_of_getElem? (i := 10) rfl)) (ty := (.array (.object "java/lang/Object"))) (by decide) rfl rfl (g := (mkF m 7 #[.val (.ref a1), .val (.int p2)] [(.ref b), (.ref a1)])) rfl rfl (hb hby own_djdk_2581_6_7)
  have N2 := Fr.snoc X2 N0 g
  have sz2 : n0 ≤ h2.size := Nat.le_trans sz1 (Keep.of_wr W2).1
  have K1 : Keep h0 h2 [a1] := ((Keep.refl h0 [a1]).ext Xe1).wr W2 (Or.inl (List.mem_of_getElem? (i := 0) rfl))
  obtain ⟨fs, hr, hrun, hended, hW, hsame⟩ := X2.leave (v := none) (fun _ => rfl)
  refine ⟨_, _, pre0 _ ?_, hrun, hended, _, _, rfl, ?_, ⟨_, rfl⟩, hW, hsame.mono (by decide) (by decide)⟩
  · show Steps p.tables e below (s₁.setTop (mkF m 0 #[.val (.ref a1), .val (.int p2)] [])) _
    refine XS.aloadN X0.here hx rfl (hb hby own_djdk_2581_6_0) rfl rfl ?_
    show Steps p.tables e below (s₁.setTop (mkF m 1 #[.val (.ref a1), .val (.int p2)] [(.ref a1)])) _
    refine XS.iconst X0.here hx rfl (hb hby own_djdk_2581_6_1) ?_
    show Steps p.tables e below (s₁.setTop (mkF m 2 #[.val (.ref a1), .val (.int p2)] [(.int (2 : Int32)), (.ref a1)])) _
    refine XS.iloadN X0.here hx rfl (hb hby own_djdk_2581_6_2) rfl ?_
    show Steps p.tables e below (s₁.setTop (mkF m 3 #[.val (.ref a1), .val (.int p2)] [(.int p2), (.int (2 : Int32)), (.ref a1)])) _
    refine XS.imul X0.here hx rfl (hb hby own_djdk_2581_6_3) rfl ?_
    show Steps p.tables e below (s₁.setTop (mkF m 4 #[.val (.ref a1), .val (.int p2)] [(.int ((2 : Int32) * p2)), (.ref a1)])) _
    refine st1 _ ?_
    show Steps p.tables e below (T1.setTop (mkF m 7 #[.val (.ref a1), .val (.int p2)] [(.ref b), (.ref a1)])) _
    refine st2 _ ?_
    show Steps p.tables e below (T2.setTop (mkF m 10 #[.val (.ref a1), .val (.int p2)] [])) _
    exact X2.returnOut hx Bd.returns (hb hby own_djdk_2581_6_10) hr
  · show Q_imi Z a1 p2 u1 h0 n0 _ T2.heap _
    rw [e2]
    exact ⟨rfl, N2, K1⟩
theorem own_djdk_2581_3_0 : decode jdk_2581_method_3_code 0 = .ok (.aload_n 0, 1) := by decide +kernel
theorem own_djdk_2581_3_1 : decode jdk_2581_method_3_code 1 = .ok (.invokespecial 7, 3) := by decide +kernel
theorem own_djdk_2581_3_4 : decode jdk_2581_method_3_code 4 = .ok (.aload_n 0, 1) := by decide +kernel
theorem own_djdk_2581_3_5 : decode jdk_2581_method_3_code 5 = .ok (.bipush 32, 2) := by decide +kernel
theorem own_djdk_2581_3_7 : decode jdk_2581_method_3_code 7 = .ok (.invokevirtual 13, 3) := by decide +kernel
theorem own_djdk_2581_3_10 : decode jdk_2581_method_3_code 10 = .ok (.return_, 1) := by decide +kernel
theorem own_pd0 : parseMethodDescriptor "()V" = some ⟨[], none⟩ := by decide +kernel
theorem own_pd1 : parseMethodDescriptor "(I)V" = some ⟨[.int], none⟩ := by decide +kernel
theorem own_ef_im (m : MethodId) (x0 : Addr) : entryFrame m #[(.ref x0)] 1 = mkF m 0 #[.val (.ref x0)] [] := by first | (simp [entryFrame, mkF, argsToLocals, Value.category]; done) | rfl
def Q_im (Z : State) (a1 : Addr) (u1 : Value) (h0 : Heap) (n0 : Nat) (v : Option Value) (h : Heap) (L : List Loc) : Prop := v = none ∧ Fr n0 L ∧ Keep h0 h [a1]
set_option maxRecDepth 65536 in
set_option maxHeartbeats 40000000 in
theorem rm_im (l : Launch) (Z : State) (a0 : Array Value) (hw : ∀ d ∈ tables_1, d.before a0 Z = true) (ws : List Jvm.Cond) (a1 : Addr) (u1 : Value) (h0 : Heap) (n0 : Nat) (Z0 : n0 ≤ h0.size) (E : Exa Z h0 a1 "java/util/IdentityHashMap") (F : Fld Z h0 a1 "java/util/IdentityHashMap" "table" "[Ljava/lang/Object;" u1) (g : n0 ≤ a1) :
    MetFree l (⟨"java/util/IdentityHashMap", "<init>", "()V"⟩ : MethodName) (head1 (Jvm.Cond.code (⟨"java/util/IdentityHashMap", "<init>", "()V"⟩ : MethodName) jdk_2581_method_3_code 1 none :: ws) ({ frames := 2, cells := 1, slots := 64, locals := 24 } : Room)) (fun a U => a = #[(.ref a1)] ∧ Z.Warmed39 U.vm ∧ U.heap = h0) (fun _ _ _ _ _ => True) (fun _ U o U' => ∃ v L, o = .returned v ∧ Q_im Z a1 u1 h0 n0 v U'.heap L ∧ FrameEnd U o U' L ({ frames := 2, cells := 1, slots := 64, locals := 24 } : Room).cells ({ frames := 2, cells := 1, slots := 64, locals := 24 } : Room).slots) := by
  refine MetFree.of_bodySF (plainFor_of_name own_pn_java_util_IdentityHashMap) hisR ?_
  intro p e s m args below meth c s₁ Bd hml0 hP hK
  obtain ⟨rfl, hZ, hh⟩ := hP
  have hx := Bd.exec
  have hby := Bd.bytes
  have hml : c.maxLocals = 1 := hml0
  have hown : s.vm.findClass "java/util/IdentityHashMap" = some m.cls := findClass_of_methodNamed Bd.named
  have hnm := (name_of_methodNamed Bd.named Bd.method).1
  have X0 : Stand p l e ({ frames := 2, cells := 1, slots := 64, locals := 24 } : Room) s m #[(.ref a1)] below meth c s₁ [] 0 0 := Stand.of_body Bd
  have e0 : s₁.heap = h0 := by rw [← hh, Bd.state]; rfl
  have N0 := Fr.nil n0
  have pre0 : ∀ t, Steps p.tables e below (s₁.setTop (mkF m 0 #[.val (.ref a1)] [])) t → Steps p.tables e below (s₁.setTop (entryFrame m #[(.ref a1)] 1)) t := fun t k => castTop (own_ef_im m a1) k
  obtain ⟨_, _, ⟨T1, L1, k1, n1⟩, -, X1, ⟨Lc1, hQ1, l1, y1, z1⟩, st1⟩ := X0.specialBack hx (y := (⟨"java/util/AbstractMap", "<init>", "()V"⟩ : MethodName)) rfl hown (mvT hZ (hw _ (List.mem_of_getElem? (i := 15) rfl))) (mvT hZ (hw _ (List.mem_of_getElem? (i := 16) rfl))) (mvT hZ (hw _ (List.mem_of_getElem? (i := 20) rfl))) (by decide) (backOf (W := 0) (rm_am l Z a0 hw [] a1 h0 n0 Z0) hZ (hw _ (List.mem_of_getElem? (i := 20) rfl)) (hw _ (List.mem_of_getElem? (i := 19) rfl)) (by decide) (by decide)) (g := (mkF m 1 #[.val (.ref a1)] [(.ref a1)])) rfl (by rw [hml]; rfl) (Steps.refl _) (a := a1) (argsL := []) (rest := []) (lenOf own_pd0 rfl) rfl (by show 2 * 0 + _ ≤ _; exact Nat.le_of_eq rfl) (hb hby own_djdk_2581_3_1) (fun _ _ => ⟨rfl, e0, (by decide : 0 + 0 ≤ _), (by decide : 0 + 0 ≤ _)⟩)
  dsimp only [Pt.U, Pt.locs, Pt.cells, Pt.slots] at X1 l1 y1 z1 st1 hQ1
  rw [l1, y1, z1] at X1
  obtain ⟨rfl, Nq1, e1⟩ := hQ1
  have N1 := Fr.app N0 Nq1
  obtain ⟨cq2, q2, q2'⟩ := (E).cell
  rw [← e1] at q2
  obtain ⟨_, _, ⟨T2, L2, k2, n2⟩, -, X2, ⟨Lc2, hQ2, l2, y2, z2⟩, st2⟩ := X1.privateBack hx (y := (⟨"java/util/IdentityHashMap", "init", "(I)V"⟩ : MethodName)) hown (mvT hZ (hw _ (List.mem_of_getElem? (i := 22) rfl))) (mvT hZ (hw _ (List.mem_of_getElem? (i := 23) rfl))) (mvT hZ (hw _ (List.mem_of_getElem? (i := 25) rfl))) (Cond.privateMethod_at (mvP hZ (hw _ (List.mem_of_getElem? (i := 24) rfl)) (args := #[]))) (mvT hZ (hw _ (List.mem_of_getElem? (i := 26) rfl))) (by decide) (backOf (W := 0) (rm_imi l Z a0 hw [] a1 (32 : Int32) _ h0 n0 Z0 rfl E F g) hZ (hw _ (List.mem_of_getElem? (i := 26) rfl)) (hw _ (List.mem_of_getElem? (i := 11) rfl)) (by decide) (by decide)) (g := (mkF m 7 #[.val (.ref a1)] [(.int (32 : Int32)), (.ref a1)])) rfl (by rw [hml]; rfl) (Steps.refl _) (a := a1) q2 q2' (argsL := [(.int (32 : Int32))]) (rest := []) (lenOf own_pd1 rfl) rfl (by show 2 * 0 + _ ≤ _; exact Nat.le_of_eq rfl) (hb hby own_djdk_2581_3_7) (fun _ _ => ⟨rfl, e1, (by decide : 0 + 1 ≤ _), (by decide : 0 + 64 ≤ _)⟩)
  dsimp only [Pt.U, Pt.locs, Pt.cells, Pt.slots] at X2 l2 y2 z2 st2 hQ2
  rw [l2, y2, z2] at X2
  obtain ⟨rfl, Nq2, K1⟩ := hQ2
  have sz2 : n0 ≤ T2.heap.size := Nat.le_trans Z0 K1.1
  have N2 := Fr.app N1 Nq2
  obtain ⟨fs, hr, hrun, hended, hW, hsame⟩ := X2.leave (v := none) (fun _ => rfl)
  refine ⟨_, _, pre0 _ ?_, hrun, hended, _, _, rfl, ?_, ⟨_, rfl⟩, hW, hsame.mono (by decide) (by decide)⟩
  · show Steps p.tables e below (s₁.setTop (mkF m 0 #[.val (.ref a1)] [])) _
    refine XS.aloadN X0.here hx rfl (hb hby own_djdk_2581_3_0) rfl rfl ?_
    show Steps p.tables e below (s₁.setTop (mkF m 1 #[.val (.ref a1)] [(.ref a1)])) _
    refine st1.trans ?_
    show Steps p.tables e below (T1.setTop (mkF m 4 #[.val (.ref a1)] [])) _
    refine XS.aloadN X1.here hx rfl (hb hby own_djdk_2581_3_4) rfl rfl ?_
    show Steps p.tables e below (T1.setTop (mkF m 5 #[.val (.ref a1)] [(.ref a1)])) _
    refine XS.bipush X1.here hx rfl (hb hby own_djdk_2581_3_5) ?_
    show Steps p.tables e below (T1.setTop (mkF m 7 #[.val (.ref a1)] [(.int (32 : Int32)), (.ref a1)])) _
    refine st2.trans ?_
    show Steps p.tables e below (T2.setTop (mkF m 10 #[.val (.ref a1)] [])) _
    exact X2.returnOut hx Bd.returns (hb hby own_djdk_2581_3_10) hr
  · show Q_im Z a1 u1 h0 n0 _ T2.heap _
    exact ⟨rfl, N2, K1⟩
theorem own_dprog_7_1_0 : decode prog_7_method_1_code 0 = .ok (.aload_n 0, 1) := by decide +kernel
theorem own_dprog_7_1_1 : decode prog_7_method_1_code 1 = .ok (.invokespecial 1, 3) := by decide +kernel
theorem own_dprog_7_1_4 : decode prog_7_method_1_code 4 = .ok (.aload_n 0, 1) := by decide +kernel
theorem own_dprog_7_1_5 : decode prog_7_method_1_code 5 = .ok (.new 7, 3) := by decide +kernel
theorem own_dprog_7_1_8 : decode prog_7_method_1_code 8 = .ok (.dup, 1) := by decide +kernel
theorem own_dprog_7_1_9 : decode prog_7_method_1_code 9 = .ok (.invokespecial 9, 3) := by decide +kernel
theorem own_dprog_7_1_12 : decode prog_7_method_1_code 12 = .ok (.putfield 10, 3) := by decide +kernel
theorem own_dprog_7_1_15 : decode prog_7_method_1_code 15 = .ok (.aload_n 0, 1) := by decide +kernel
theorem own_dprog_7_1_16 : decode prog_7_method_1_code 16 = .ok (.lload_n 1, 1) := by decide +kernel
theorem own_dprog_7_1_17 : decode prog_7_method_1_code 17 = .ok (.putfield 16, 3) := by decide +kernel
theorem own_dprog_7_1_20 : decode prog_7_method_1_code 20 = .ok (.return_, 1) := by decide +kernel
theorem own_pn_com_example_seatwire_seatwire_Room : plainName "com/example/seatwire/seatwire/Room" = true := by first | (simp [plainName, overriddenIn]; done) | decide +kernel
theorem own_ef_rm (m : MethodId) (x0 : Addr) (x1 : Int64) : entryFrame m #[(.ref x0), (.long x1)] 3 = mkF m 0 #[.val (.ref x0), .val (.long x1), .second] [] := by first | (simp [entryFrame, mkF, argsToLocals, Value.category]; done) | rfl
def Q_rm (Z : State) (a1 : Addr) (q2 : Int64) (u1 : Value) (u2 : Value) (h0 : Heap) (n0 : Nat) (v : Option Value) (h : Heap) (L : List Loc) : Prop := v = none ∧ Fr n0 L ∧ Keep h0 h [a1] ∧ Exa Z h a1 "com/example/seatwire/seatwire/Room" ∧ Fld Z h a1 "com/example/seatwire/seatwire/Room" "size" "J" (.long q2) ∧ Fld Z h a1 "com/example/seatwire/seatwire/Room" "held" "J" (.long (0 : Int64))
set_option maxRecDepth 65536 in
set_option maxHeartbeats 40000000 in
theorem rm_rm (l : Launch) (Z : State) (a0 : Array Value) (hw : ∀ d ∈ tables_1, d.before a0 Z = true) (ws : List Jvm.Cond) (a1 : Addr) (q2 : Int64) (u1 : Value) (u2 : Value) (h0 : Heap) (n0 : Nat) (Z0 : n0 ≤ h0.size) (E : Exa Z h0 a1 "com/example/seatwire/seatwire/Room") (F1 : Fld Z h0 a1 "com/example/seatwire/seatwire/Room" "queues" "Ljava/util/IdentityHashMap;" u1) (F2 : Fld Z h0 a1 "com/example/seatwire/seatwire/Room" "size" "J" u2) (F3 : Fld Z h0 a1 "com/example/seatwire/seatwire/Room" "held" "J" (.long (0 : Int64))) (g : n0 ≤ a1) :
    MetFree l (⟨"com/example/seatwire/seatwire/Room", "<init>", "(J)V"⟩ : MethodName) (head1 (Jvm.Cond.code (⟨"com/example/seatwire/seatwire/Room", "<init>", "(J)V"⟩ : MethodName) prog_7_method_1_code 3 none :: ws) ({ frames := 3, cells := 2, slots := 70, locals := 38 } : Room)) (fun a U => a = #[(.ref a1), (.long q2)] ∧ Z.Warmed39 U.vm ∧ U.heap = h0) (fun _ _ _ _ _ => True) (fun _ U o U' => ∃ v L, o = .returned v ∧ Q_rm Z a1 q2 u1 u2 h0 n0 v U'.heap L ∧ FrameEnd U o U' L ({ frames := 3, cells := 2, slots := 70, locals := 38 } : Room).cells ({ frames := 3, cells := 2, slots := 70, locals := 38 } : Room).slots) := by
  refine MetFree.of_bodySF (plainFor_of_name own_pn_com_example_seatwire_seatwire_Room) hisR ?_
  intro p e s m args below meth c s₁ Bd hml0 hP hK
  obtain ⟨rfl, hZ, hh⟩ := hP
  have hx := Bd.exec
  have hby := Bd.bytes
  have hml : c.maxLocals = 3 := hml0
  have hown : s.vm.findClass "com/example/seatwire/seatwire/Room" = some m.cls := findClass_of_methodNamed Bd.named
  have hnm := (name_of_methodNamed Bd.named Bd.method).1
  have X0 : Stand p l e ({ frames := 3, cells := 2, slots := 70, locals := 38 } : Room) s m #[(.ref a1), (.long q2)] below meth c s₁ [] 0 0 := Stand.of_body Bd
  have e0 : s₁.heap = h0 := by rw [← hh, Bd.state]; rfl
  have N0 := Fr.nil n0
  have pre0 : ∀ t, Steps p.tables e below (s₁.setTop (mkF m 0 #[.val (.ref a1), .val (.long q2), .second] [])) t → Steps p.tables e below (s₁.setTop (entryFrame m #[(.ref a1), (.long q2)] 3)) t := fun t k => castTop (own_ef_rm m a1 q2) k
  obtain ⟨T1, X1, e1, st1⟩ := initO X0 hx hZ hown (hw _ (List.mem_of_getElem? (i := 6) rfl)) (hw _ (List.mem_of_getElem? (i := 7) rfl)) (hw _ (List.mem_of_getElem? (i := 8) rfl)) e0 (g := (mkF m 1 #[.val (.ref a1), .val (.long q2), .second] [(.ref a1)])) rfl (by rw [hml]; rfl) rfl (hb hby own_dprog_7_1_1) (by decide) (W := 0) (by show 2 * 0 + _ ≤ _; exact Nat.le_of_eq rfl) (by decide)
  obtain ⟨T2, h2, X2, e2, E2, A2, D2, -, st2⟩ := newO X1 hx hZ hown (hw _ (List.mem_of_getElem? (i := 9) rfl)) (hw _ (List.mem_of_getElem? (i := 10) rfl)) (hw _ (List.mem_of_getElem? (i := 11) rfl)) e1 (g := (mkF m 5 #[.val (.ref a1), .val (.long q2), .second] [(.ref a1)])) rfl (hb hby own_dprog_7_1_5) (by decide) (by decide)
  obtain ⟨b, g2⟩ : ∃ z, z = h0.size := ⟨_, rfl⟩
  rw [← g2] at A2 D2 st2
  have gn_b : n0 ≤ b := Nat.le_trans Z0 (Nat.le_of_eq g2.symm)
  have sz2 : n0 ≤ h2.size := Nat.le_trans Z0 E2.1
  have Xe1 := E2
  have ze1 := g2
  have E_b := A2
  have F_b := D2 (Or.inl (hw _ (List.mem_of_getElem? (i := 30) rfl))) (ty := .array (.object "java/lang/Object")) (by decide)
  have ne1 : a1 ≠ b := Nat.ne_of_lt (Nat.lt_of_lt_of_le E.lt (Nat.le_of_eq ze1.symm))
  obtain ⟨_, _, ⟨T3, L3, k3, n3⟩, -, X3, ⟨Lc3, hQ3, l3, y3, z3⟩, st3⟩ := X2.specialBack hx (y := (⟨"java/util/IdentityHashMap", "<init>", "()V"⟩ : MethodName)) rfl hown (mvT hZ (hw _ (List.mem_of_getElem? (i := 12) rfl))) (mvT hZ (hw _ (List.mem_of_getElem? (i := 13) rfl))) (mvT hZ (hw _ (List.mem_of_getElem? (i := 14) rfl))) (by decide) (backOf (W := 2) (rm_im l Z a0 hw [] b _ h2 n0 sz2 E_b F_b gn_b) hZ (hw _ (List.mem_of_getElem? (i := 14) rfl)) (hw _ (List.mem_of_getElem? (i := 11) rfl)) (by decide) (by decide)) (g := (mkF m 9 #[.val (.ref a1), .val (.long q2), .second] [(.ref b), (.ref b), (.ref a1)])) rfl (by rw [hml]; rfl) (Steps.refl _) (a := b) (argsL := []) (rest := [(.ref b), (.ref a1)]) (lenOf own_pd0 rfl) rfl (by show 2 * 0 + _ ≤ _; exact Nat.le_of_eq rfl) (hb hby own_dprog_7_1_9) (fun _ _ => ⟨rfl, e2, (by decide : 1 + 1 ≤ _), (by decide : 6 + 64 ≤ _)⟩)
  dsimp only [Pt.U, Pt.locs, Pt.cells, Pt.slots] at X3 l3 y3 z3 st3 hQ3
  rw [l3, y3, z3] at X3
  obtain ⟨rfl, Nq3, K1⟩ := hQ3
  have sz3 : n0 ≤ T3.heap.size := Nat.le_trans sz2 K1.1
  have N3 := Fr.app N0 Nq3
  have Ea := (E.ext Xe1).keep K1
  have F1a := (F1.ext Xe1).keep K1 (ninS ne1 nin0)
  have F2a := (F2.ext Xe1).keep K1 (ninS ne1 nin0)
  have F3a := (F3.ext Xe1).keep K1 (ninS ne1 nin0)
  have Ka : Keep h0 T3.heap [a1] := ((Keep.refl h0 [a1]).ext Xe1).trans K1 (fun x hx => Or.inr (by cases List.mem_singleton.mp hx; exact Nat.le_of_eq ze1.symm))
  obtain ⟨T4, h4, X4, e4, W4, st4⟩ := putF X3 hx hZ hown (host := "") (Or.inl (hw _ (List.mem_of_getElem? (i := 31) rfl))) Via.refl rfl F1a Ea (Or.inr ⟨(hw _ (List.mem_of_getElem? (i := 32) rfl)), rfl, hnm⟩) (hw _ (List.mem_of_getElem? (i := 1) rfl)) (ty := (.object "java/util/IdentityHashMap")) (by decide) rfl rfl (g := (mkF m 12 #[.val (.ref a1), .val (.long q2), .second] [(.ref b), (.ref a1)])) rfl rfl (hb hby own_dprog_7_1_12)
  have N4 := Fr.snoc X4 N3 g
  have sz4 : n0 ≤ h4.size := Nat.le_trans sz3 (Keep.of_wr W4).1
  have Eb := Ea.wr W4
  have F2b := (F2a.other W4 (Or.inr (slot_ne (Or.inr (hw _ (List.mem_of_getElem? (i := 34) rfl))) (Or.inr (hw _ (List.mem_of_getElem? (i := 32) rfl))) (by decide) (t := .long) (t' := (.object "java/util/IdentityHashMap")) (by decide) (by decide))))
  have F3b := (F3a.other W4 (Or.inr (slot_ne (Or.inl (hw _ (List.mem_of_getElem? (i := 41) rfl))) (Or.inr (hw _ (List.mem_of_getElem? (i := 32) rfl))) (by decide) (t := .long) (t' := (.object "java/util/IdentityHashMap")) (by decide) (by decide))))
  have Kb : Keep h0 h4 [a1] := Ka.wr W4 (Or.inl (List.mem_of_getElem? (i := 0) rfl))
  obtain ⟨T5, h5, X5, e5, W5, st5⟩ := putF X4 hx hZ hown (host := "") (Or.inl (hw _ (List.mem_of_getElem? (i := 33) rfl))) Via.refl e4 F2b Eb (Or.inr ⟨(hw _ (List.mem_of_getElem? (i := 34) rfl)), rfl, hnm⟩) (hw _ (List.mem_of_getElem? (i := 1) rfl)) (ty := .long) (by decide) rfl rfl (g := (mkF m 17 #[.val (.ref a1), .val (.long q2), .second] [(.long q2), (.ref a1)])) rfl rfl (hb hby own_dprog_7_1_17)
  have N5 := Fr.snoc X5 N4 g
  have sz5 : n0 ≤ h5.size := Nat.le_trans sz4 (Keep.of_wr W5).1
  have Ec := Eb.wr W5
  have F2c := F2b.same W5
  have F3c := (F3b.other W5 (Or.inr (slot_ne (Or.inl (hw _ (List.mem_of_getElem? (i := 41) rfl))) (Or.inr (hw _ (List.mem_of_getElem? (i := 34) rfl))) (by decide) (t := .long) (t' := .long) (by decide) (by decide))))
  have Kc : Keep h0 h5 [a1] := Kb.wr W5 (Or.inl (List.mem_of_getElem? (i := 0) rfl))
  obtain ⟨fs, hr, hrun, hended, hW, hsame⟩ := X5.leave (v := none) (fun _ => rfl)
  refine ⟨_, _, pre0 _ ?_, hrun, hended, _, _, rfl, ?_, ⟨_, rfl⟩, hW, hsame.mono (by decide) (by decide)⟩
  · show Steps p.tables e below (s₁.setTop (mkF m 0 #[.val (.ref a1), .val (.long q2), .second] [])) _
    refine XS.aloadN X0.here hx rfl (hb hby own_dprog_7_1_0) rfl rfl ?_
    show Steps p.tables e below (s₁.setTop (mkF m 1 #[.val (.ref a1), .val (.long q2), .second] [(.ref a1)])) _
    refine st1 _ ?_
    show Steps p.tables e below (T1.setTop (mkF m 4 #[.val (.ref a1), .val (.long q2), .second] [])) _
    refine XS.aloadN X1.here hx rfl (hb hby own_dprog_7_1_4) rfl rfl ?_
    show Steps p.tables e below (T1.setTop (mkF m 5 #[.val (.ref a1), .val (.long q2), .second] [(.ref a1)])) _
    refine st2 _ ?_
    show Steps p.tables e below (T2.setTop (mkF m 8 #[.val (.ref a1), .val (.long q2), .second] [(.ref b), (.ref a1)])) _
    refine XS.dup X2.here hx rfl (hb hby own_dprog_7_1_8) rfl rfl ?_
    show Steps p.tables e below (T2.setTop (mkF m 9 #[.val (.ref a1), .val (.long q2), .second] [(.ref b), (.ref b), (.ref a1)])) _
    refine st3.trans ?_
    show Steps p.tables e below (T3.setTop (mkF m 12 #[.val (.ref a1), .val (.long q2), .second] [(.ref b), (.ref a1)])) _
    refine st4 _ ?_
    show Steps p.tables e below (T4.setTop (mkF m 15 #[.val (.ref a1), .val (.long q2), .second] [])) _
    refine XS.aloadN X4.here hx rfl (hb hby own_dprog_7_1_15) rfl rfl ?_
    show Steps p.tables e below (T4.setTop (mkF m 16 #[.val (.ref a1), .val (.long q2), .second] [(.ref a1)])) _
    refine XS.lloadN X4.here hx rfl (hb hby own_dprog_7_1_16) rfl ?_
    show Steps p.tables e below (T4.setTop (mkF m 17 #[.val (.ref a1), .val (.long q2), .second] [(.long q2), (.ref a1)])) _
    refine st5 _ ?_
    show Steps p.tables e below (T5.setTop (mkF m 20 #[.val (.ref a1), .val (.long q2), .second] [])) _
    exact X5.returnOut hx Bd.returns (hb hby own_dprog_7_1_20) hr
  · show Q_rm Z a1 q2 u1 u2 h0 n0 _ T5.heap _
    rw [e5]
    exact ⟨rfl, N5, Kc, Ec, F2c, F3c⟩
theorem own_dprog_7_3_0 : decode prog_7_method_3_code 0 = .ok (.aload_n 0, 1) := by decide +kernel
theorem own_dprog_7_3_1 : decode prog_7_method_3_code 1 = .ok (.dup, 1) := by decide +kernel
theorem own_dprog_7_3_2 : decode prog_7_method_3_code 2 = .ok (.getfield 20, 3) := by decide +kernel
theorem own_dprog_7_3_5 : decode prog_7_method_3_code 5 = .ok (.lload_n 1, 1) := by decide +kernel
theorem own_dprog_7_3_6 : decode prog_7_method_3_code 6 = .ok (.ladd, 1) := by decide +kernel
theorem own_dprog_7_3_7 : decode prog_7_method_3_code 7 = .ok (.putfield 20, 3) := by decide +kernel
theorem own_dprog_7_3_10 : decode prog_7_method_3_code 10 = .ok (.return_, 1) := by decide +kernel
theorem own_ef_use (m : MethodId) (x0 : Addr) (x1 : Int64) : entryFrame m #[(.ref x0), (.long x1)] 3 = mkF m 0 #[.val (.ref x0), .val (.long x1), .second] [] := by first | (simp [entryFrame, mkF, argsToLocals, Value.category]; done) | rfl
def Q_use (Z : State) (a1 : Addr) (q2 : Int64) (qs : Int64) (qh : Int64) (h0 : Heap) (n0 : Nat) (v : Option Value) (h : Heap) (L : List Loc) : Prop := v = none ∧ Fr n0 L ∧ Keep h0 h [a1] ∧ Exa Z h a1 "com/example/seatwire/seatwire/Room" ∧ Fld Z h a1 "com/example/seatwire/seatwire/Room" "size" "J" (.long qs) ∧ Fld Z h a1 "com/example/seatwire/seatwire/Room" "held" "J" (.long (qh + q2))
set_option maxRecDepth 65536 in
set_option maxHeartbeats 40000000 in
theorem rm_use (l : Launch) (Z : State) (a0 : Array Value) (hw : ∀ d ∈ tables_1, d.before a0 Z = true) (ws : List Jvm.Cond) (a1 : Addr) (q2 : Int64) (qs : Int64) (qh : Int64) (h0 : Heap) (n0 : Nat) (Z0 : n0 ≤ h0.size) (E : Exa Z h0 a1 "com/example/seatwire/seatwire/Room") (F2 : Fld Z h0 a1 "com/example/seatwire/seatwire/Room" "size" "J" (.long qs)) (F3 : Fld Z h0 a1 "com/example/seatwire/seatwire/Room" "held" "J" (.long qh)) (g : n0 ≤ a1) :
    MetFree l (⟨"com/example/seatwire/seatwire/Room", "use", "(J)V"⟩ : MethodName) (head1 (Jvm.Cond.code (⟨"com/example/seatwire/seatwire/Room", "use", "(J)V"⟩ : MethodName) prog_7_method_3_code 3 none :: ws) ({ frames := 0, cells := 0, slots := 0, locals := 0 } : Room)) (fun a U => a = #[(.ref a1), (.long q2)] ∧ Z.Warmed39 U.vm ∧ U.heap = h0) (fun _ _ _ _ _ => True) (fun _ U o U' => ∃ v L, o = .returned v ∧ Q_use Z a1 q2 qs qh h0 n0 v U'.heap L ∧ FrameEnd U o U' L ({ frames := 0, cells := 0, slots := 0, locals := 0 } : Room).cells ({ frames := 0, cells := 0, slots := 0, locals := 0 } : Room).slots) := by
  refine MetFree.of_bodySF (plainFor_of_name own_pn_com_example_seatwire_seatwire_Room) hisR ?_
  intro p e s m args below meth c s₁ Bd hml0 hP hK
  obtain ⟨rfl, hZ, hh⟩ := hP
  have hx := Bd.exec
  have hby := Bd.bytes
  have hml : c.maxLocals = 3 := hml0
  have hown : s.vm.findClass "com/example/seatwire/seatwire/Room" = some m.cls := findClass_of_methodNamed Bd.named
  have hnm := (name_of_methodNamed Bd.named Bd.method).1
  have X0 : Stand p l e ({ frames := 0, cells := 0, slots := 0, locals := 0 } : Room) s m #[(.ref a1), (.long q2)] below meth c s₁ [] 0 0 := Stand.of_body Bd
  have e0 : s₁.heap = h0 := by rw [← hh, Bd.state]; rfl
  have N0 := Fr.nil n0
  have pre0 : ∀ t, Steps p.tables e below (s₁.setTop (mkF m 0 #[.val (.ref a1), .val (.long q2), .second] [])) t → Steps p.tables e below (s₁.setTop (entryFrame m #[(.ref a1), (.long q2)] 3)) t := fun t k => castTop (own_ef_use m a1 q2) k
  obtain ⟨T1, X1, e1, st1⟩ := getF X0 hx hZ hown (host := "") (Or.inl (hw _ (List.mem_of_getElem? (i := 40) rfl))) Via.refl e0 F3 (g := (mkF m 2 #[.val (.ref a1), .val (.long q2), .second] [(.ref a1), (.ref a1)])) rfl rfl (hb hby own_dprog_7_3_2)
  obtain ⟨T2, h2, X2, e2, W2, st2⟩ := putF X1 hx hZ hown (host := "") (Or.inl (hw _ (List.mem_of_getElem? (i := 40) rfl))) Via.refl e1 F3 E (Or.inl (hw _ (List.mem_of_getElem? (i := 41) rfl))) (hw _ (List.mem_of_getElem? (i := 1) rfl)) (ty := .long) (by decide) rfl rfl (g := (mkF m 7 #[.val (.ref a1), .val (.long q2), .second] [(.long (qh + q2)), (.ref a1)])) rfl rfl (hb hby own_dprog_7_3_7)
  have N2 := Fr.snoc X2 N0 g
  have sz2 : n0 ≤ h2.size := Nat.le_trans Z0 (Keep.of_wr W2).1
  have E1 := E.wr W2
  have F3a := F3.same W2
  have F2a := (F2.other W2 (Or.inr (slot_ne (Or.inr (hw _ (List.mem_of_getElem? (i := 34) rfl))) (Or.inl (hw _ (List.mem_of_getElem? (i := 41) rfl))) (by decide) (t := .long) (t' := .long) (by decide) (by decide))))
  have K1 : Keep h0 h2 [a1] := (Keep.refl h0 [a1]).wr W2 (Or.inl (List.mem_of_getElem? (i := 0) rfl))
  obtain ⟨fs, hr, hrun, hended, hW, hsame⟩ := X2.leave (v := none) (fun _ => rfl)
  refine ⟨_, _, pre0 _ ?_, hrun, hended, _, _, rfl, ?_, ⟨_, rfl⟩, hW, hsame.mono (by decide) (by decide)⟩
  · show Steps p.tables e below (s₁.setTop (mkF m 0 #[.val (.ref a1), .val (.long q2), .second] [])) _
    refine XS.aloadN X0.here hx rfl (hb hby own_dprog_7_3_0) rfl rfl ?_
    show Steps p.tables e below (s₁.setTop (mkF m 1 #[.val (.ref a1), .val (.long q2), .second] [(.ref a1)])) _
    refine XS.dup X0.here hx rfl (hb hby own_dprog_7_3_1) rfl rfl ?_
    show Steps p.tables e below (s₁.setTop (mkF m 2 #[.val (.ref a1), .val (.long q2), .second] [(.ref a1), (.ref a1)])) _
    refine st1 _ ?_
    show Steps p.tables e below (T1.setTop (mkF m 5 #[.val (.ref a1), .val (.long q2), .second] [(.long qh), (.ref a1)])) _
    refine XS.lloadN X1.here hx rfl (hb hby own_dprog_7_3_5) rfl ?_
    show Steps p.tables e below (T1.setTop (mkF m 6 #[.val (.ref a1), .val (.long q2), .second] [(.long q2), (.long qh), (.ref a1)])) _
    refine XS.ladd X1.here hx rfl (hb hby own_dprog_7_3_6) rfl ?_
    show Steps p.tables e below (T1.setTop (mkF m 7 #[.val (.ref a1), .val (.long q2), .second] [(.long (qh + q2)), (.ref a1)])) _
    refine st2 _ ?_
    show Steps p.tables e below (T2.setTop (mkF m 10 #[.val (.ref a1), .val (.long q2), .second] [])) _
    exact X2.returnOut hx Bd.returns (hb hby own_dprog_7_3_10) hr
  · show Q_use Z a1 q2 qs qh h0 n0 _ T2.heap _
    rw [e2]
    exact ⟨rfl, N2, K1, E1, F2a, F3a⟩
theorem own_dprog_7_2_0 : decode prog_7_method_2_code 0 = .ok (.aload_n 0, 1) := by decide +kernel
theorem own_dprog_7_2_1 : decode prog_7_method_2_code 1 = .ok (.getfield 20, 3) := by decide +kernel
theorem own_dprog_7_2_4 : decode prog_7_method_2_code 4 = .ok (.lload_n 1, 1) := by decide +kernel
theorem own_dprog_7_2_5 : decode prog_7_method_2_code 5 = .ok (.ladd, 1) := by decide +kernel
theorem own_dprog_7_2_6 : decode prog_7_method_2_code 6 = .ok (.aload_n 0, 1) := by decide +kernel
theorem own_dprog_7_2_7 : decode prog_7_method_2_code 7 = .ok (.getfield 16, 3) := by decide +kernel
theorem own_dprog_7_2_10 : decode prog_7_method_2_code 10 = .ok (.lcmp, 1) := by decide +kernel
theorem own_dprog_7_2_11 : decode prog_7_method_2_code 11 = .ok (.ifCond .gt 7, 3) := by decide +kernel
theorem own_dprog_7_2_14 : decode prog_7_method_2_code 14 = .ok (.iconst 1, 1) := by decide +kernel
theorem own_dprog_7_2_15 : decode prog_7_method_2_code 15 = .ok (.goto 4, 3) := by decide +kernel
theorem own_dprog_7_2_18 : decode prog_7_method_2_code 18 = .ok (.iconst 0, 1) := by decide +kernel
theorem own_dprog_7_2_19 : decode prog_7_method_2_code 19 = .ok (.ireturn, 1) := by decide +kernel
theorem own_ef_fit (m : MethodId) (x0 : Addr) (x1 : Int64) : entryFrame m #[(.ref x0), (.long x1)] 3 = mkF m 0 #[.val (.ref x0), .val (.long x1), .second] [] := by first | (simp [entryFrame, mkF, argsToLocals, Value.category]; done) | rfl
def Q_fit (Z : State) (a1 : Addr) (q2 : Int64) (qs : Int64) (qh : Int64) (h0 : Heap) (n0 : Nat) (v : Option Value) (h : Heap) (L : List Loc) : Prop := v = some (.int (own_fits qh qs q2)) ∧ Fr n0 L ∧ h = h0
set_option maxRecDepth 65536 in
set_option maxHeartbeats 40000000 in
theorem rm_fit (l : Launch) (Z : State) (a0 : Array Value) (hw : ∀ d ∈ tables_1, d.before a0 Z = true) (ws : List Jvm.Cond) (a1 : Addr) (q2 : Int64) (qs : Int64) (qh : Int64) (h0 : Heap) (n0 : Nat) (Z0 : n0 ≤ h0.size) (F2 : Fld Z h0 a1 "com/example/seatwire/seatwire/Room" "size" "J" (.long qs)) (F3 : Fld Z h0 a1 "com/example/seatwire/seatwire/Room" "held" "J" (.long qh)) :
    MetFree l (⟨"com/example/seatwire/seatwire/Room", "fits", "(J)Z"⟩ : MethodName) (head1 (Jvm.Cond.code (⟨"com/example/seatwire/seatwire/Room", "fits", "(J)Z"⟩ : MethodName) prog_7_method_2_code 3 (some .boolean) :: ws) ({ frames := 0, cells := 0, slots := 0, locals := 0 } : Room)) (fun a U => a = #[(.ref a1), (.long q2)] ∧ Z.Warmed39 U.vm ∧ U.heap = h0) (fun _ _ _ _ _ => True) (fun _ U o U' => ∃ v L, o = .returned v ∧ Q_fit Z a1 q2 qs qh h0 n0 v U'.heap L ∧ FrameEnd U o U' L ({ frames := 0, cells := 0, slots := 0, locals := 0 } : Room).cells ({ frames := 0, cells := 0, slots := 0, locals := 0 } : Room).slots) := by
  refine MetFree.of_bodySF (plainFor_of_name own_pn_com_example_seatwire_seatwire_Room) hisR ?_
  intro p e s m args below meth c s₁ Bd hml0 hP hK
  obtain ⟨rfl, hZ, hh⟩ := hP
  have hx := Bd.exec
  have hby := Bd.bytes
  have hml : c.maxLocals = 3 := hml0
  have hown : s.vm.findClass "com/example/seatwire/seatwire/Room" = some m.cls := findClass_of_methodNamed Bd.named
  have hnm := (name_of_methodNamed Bd.named Bd.method).1
  have X0 : Stand p l e ({ frames := 0, cells := 0, slots := 0, locals := 0 } : Room) s m #[(.ref a1), (.long q2)] below meth c s₁ [] 0 0 := Stand.of_body Bd
  have e0 : s₁.heap = h0 := by rw [← hh, Bd.state]; rfl
  have N0 := Fr.nil n0
  have pre0 : ∀ t, Steps p.tables e below (s₁.setTop (mkF m 0 #[.val (.ref a1), .val (.long q2), .second] [])) t → Steps p.tables e below (s₁.setTop (entryFrame m #[(.ref a1), (.long q2)] 3)) t := fun t k => castTop (own_ef_fit m a1 q2) k
  obtain ⟨T1, X1, e1, st1⟩ := getF X0 hx hZ hown (host := "") (Or.inl (hw _ (List.mem_of_getElem? (i := 40) rfl))) Via.refl e0 F3 (g := (mkF m 1 #[.val (.ref a1), .val (.long q2), .second] [(.ref a1)])) rfl rfl (hb hby own_dprog_7_2_1)
  obtain ⟨T2, X2, e2, st2⟩ := getF X1 hx hZ hown (host := "") (Or.inl (hw _ (List.mem_of_getElem? (i := 33) rfl))) Via.refl e1 F2 (g := (mkF m 7 #[.val (.ref a1), .val (.long q2), .second] [(.ref a1), (.long (qh + q2))])) rfl rfl (hb hby own_dprog_7_2_7)
  by_cases hc : qs < (qh + q2)
  · obtain ⟨fs, hr, hrun, hended, hW, hsame⟩ := X2.leave (v := some (.int (0 : Int32))) (fun h => by rw [Bd.returns] at h; cases h)
    refine ⟨_, _, pre0 _ ?_, hrun, hended, _, _, rfl, ?_, ⟨_, rfl⟩, hW, hsame.mono (by decide) (by decide)⟩
    · show Steps p.tables e below (s₁.setTop (mkF m 0 #[.val (.ref a1), .val (.long q2), .second] [])) _
      refine XS.aloadN X0.here hx rfl (hb hby own_dprog_7_2_0) rfl rfl ?_
      show Steps p.tables e below (s₁.setTop (mkF m 1 #[.val (.ref a1), .val (.long q2), .second] [(.ref a1)])) _
      refine st1 _ ?_
      show Steps p.tables e below (T1.setTop (mkF m 4 #[.val (.ref a1), .val (.long q2), .second] [(.long qh)])) _
      refine XS.lloadN X1.here hx rfl (hb hby own_dprog_7_2_4) rfl ?_
      show Steps p.tables e below (T1.setTop (mkF m 5 #[.val (.ref a1), .val (.long q2), .second] [(.long q2), (.long qh)])) _
      refine XS.ladd X1.here hx rfl (hb hby own_dprog_7_2_5) rfl ?_
      show Steps p.tables e below (T1.setTop (mkF m 6 #[.val (.ref a1), .val (.long q2), .second] [(.long (qh + q2))])) _
      refine XS.aloadN X1.here hx rfl (hb hby own_dprog_7_2_6) rfl rfl ?_
      show Steps p.tables e below (T1.setTop (mkF m 7 #[.val (.ref a1), .val (.long q2), .second] [(.ref a1), (.long (qh + q2))])) _
      refine st2 _ ?_
      show Steps p.tables e below (T2.setTop (mkF m 10 #[.val (.ref a1), .val (.long q2), .second] [(.long qs), (.long (qh + q2))])) _
      refine XS.lcmp X2.here hx rfl (hb hby own_dprog_7_2_10) rfl ?_
      show Steps p.tables e below (T2.setTop (mkF m 11 #[.val (.ref a1), .val (.long q2), .second] [(.int (lcmpW (qh + q2) qs))])) _
      refine XS.ifYes X2.here hx rfl (pc0 := 11) (pc' := 18) rfl (hb hby own_dprog_7_2_11) rfl (Jvm.Free.XT.ll_gt_t hc) (by decide) (by decide) ?_
      show Steps p.tables e below (T2.setTop (mkF m 18 #[.val (.ref a1), .val (.long q2), .second] [])) _
      refine XS.iconst X2.here hx rfl (hb hby own_dprog_7_2_18) ?_
      show Steps p.tables e below (T2.setTop (mkF m 19 #[.val (.ref a1), .val (.long q2), .second] [(.int (0 : Int32))])) _
      exact retN X2 hx (t := .boolean) Bd.returns (by simp) (hb hby own_dprog_7_2_19) hr
    · show Q_fit Z a1 q2 qs qh h0 n0 _ T2.heap _
      rw [e2]
      exact ⟨(by unfold own_fits; rw [if_pos hc]), N0, rfl⟩
  · obtain ⟨fs, hr, hrun, hended, hW, hsame⟩ := X2.leave (v := some (.int (1 : Int32))) (fun h => by rw [Bd.returns] at h; cases h)
    refine ⟨_, _, pre0 _ ?_, hrun, hended, _, _, rfl, ?_, ⟨_, rfl⟩, hW, hsame.mono (by decide) (by decide)⟩
    · show Steps p.tables e below (s₁.setTop (mkF m 0 #[.val (.ref a1), .val (.long q2), .second] [])) _
      refine XS.aloadN X0.here hx rfl (hb hby own_dprog_7_2_0) rfl rfl ?_
      show Steps p.tables e below (s₁.setTop (mkF m 1 #[.val (.ref a1), .val (.long q2), .second] [(.ref a1)])) _
      refine st1 _ ?_
      show Steps p.tables e below (T1.setTop (mkF m 4 #[.val (.ref a1), .val (.long q2), .second] [(.long qh)])) _
      refine XS.lloadN X1.here hx rfl (hb hby own_dprog_7_2_4) rfl ?_
      show Steps p.tables e below (T1.setTop (mkF m 5 #[.val (.ref a1), .val (.long q2), .second] [(.long q2), (.long qh)])) _
      refine XS.ladd X1.here hx rfl (hb hby own_dprog_7_2_5) rfl ?_
      show Steps p.tables e below (T1.setTop (mkF m 6 #[.val (.ref a1), .val (.long q2), .second] [(.long (qh + q2))])) _
      refine XS.aloadN X1.here hx rfl (hb hby own_dprog_7_2_6) rfl rfl ?_
      show Steps p.tables e below (T1.setTop (mkF m 7 #[.val (.ref a1), .val (.long q2), .second] [(.ref a1), (.long (qh + q2))])) _
      refine st2 _ ?_
      show Steps p.tables e below (T2.setTop (mkF m 10 #[.val (.ref a1), .val (.long q2), .second] [(.long qs), (.long (qh + q2))])) _
      refine XS.lcmp X2.here hx rfl (hb hby own_dprog_7_2_10) rfl ?_
      show Steps p.tables e below (T2.setTop (mkF m 11 #[.val (.ref a1), .val (.long q2), .second] [(.int (lcmpW (qh + q2) qs))])) _
      refine XS.ifNo X2.here hx rfl (hb hby own_dprog_7_2_11) rfl (Jvm.Free.XT.ll_gt_f hc) ?_
      show Steps p.tables e below (T2.setTop (mkF m 14 #[.val (.ref a1), .val (.long q2), .second] [])) _
      refine XS.iconst X2.here hx rfl (hb hby own_dprog_7_2_14) ?_
      show Steps p.tables e below (T2.setTop (mkF m 15 #[.val (.ref a1), .val (.long q2), .second] [(.int (1 : Int32))])) _
      refine XS.goto X2.here hx rfl (pc0 := 15) (pc' := 19) rfl (hb hby own_dprog_7_2_15) (by decide) (by decide) ?_
      show Steps p.tables e below (T2.setTop (mkF m 19 #[.val (.ref a1), .val (.long q2), .second] [(.int (1 : Int32))])) _
      exact retN X2 hx (t := .boolean) Bd.returns (by simp) (hb hby own_dprog_7_2_19) hr
    · show Q_fit Z a1 q2 qs qh h0 n0 _ T2.heap _
      rw [e2]
      exact ⟨(by unfold own_fits; rw [if_neg hc]), N0, rfl⟩
theorem own_pd2 : parseMethodDescriptor "(J)V" = some ⟨[.long], none⟩ := by decide +kernel
theorem own_pd3 : parseMethodDescriptor "(J)Z" = some ⟨[.long], some .boolean⟩ := by decide +kernel
theorem own_pn_com_example_seatwire_seatwire_RoomFitsPinLaw : plainName "com/example/seatwire/seatwire/RoomFitsPinLaw" = true := by first | (simp [plainName, overriddenIn]; done) | decide +kernel
theorem own_ef_law (m : MethodId) (x0 : Int64) (x1 : Int64) (x2 : Int64) (x3 : Int64) (x4 : Int32) : entryFrame m #[(.long x0), (.long x1), (.long x2), (.long x3), (.int x4)] maxLocals = mkF m 0 #[.val (.long x0), .second, .val (.long x1), .second, .val (.long x2), .second, .val (.long x3), .second, .val (.int x4), .unset, .unset, .unset, .unset, .unset, .unset, .unset, .unset, .unset, .unset, .unset, .unset, .unset, .unset, .unset] [] := by first | (simp [entryFrame, mkF, argsToLocals, Value.category, maxLocals]; done) | rfl
def Q_law (Z : State) (q1 : Int64) (q2 : Int64) (q3 : Int64) (q4 : Int64) (p5 : Int32) (h0 : Heap) (n0 : Nat) (v : Option Value) (h : Heap) (L : List Loc) : Prop := v = some (.int 1) ∧ Fr n0 L
set_option maxRecDepth 65536 in
set_option maxHeartbeats 40000000 in
theorem rm_law (l : Launch) (Z : State) (a0 : Array Value) (hw : ∀ d ∈ tables_1, d.before a0 Z = true) (ws : List Jvm.Cond) (q1 : Int64) (q2 : Int64) (q3 : Int64) (q4 : Int64) (p5 : Int32) (h0 : Heap) (n0 : Nat) (Z0 : n0 ≤ h0.size)  :
    MetFree l x (head1 (Jvm.Cond.code x code maxLocals ret :: ws) room_1) (fun a U => a = #[(.long q1), (.long q2), (.long q3), (.long q4), (.int p5)] ∧ Z.Warmed39 U.vm ∧ U.heap = h0) (fun _ _ _ _ _ => True) (fun _ U o U' => ∃ v L, o = .returned v ∧ Q_law Z q1 q2 q3 q4 p5 h0 n0 v U'.heap L ∧ FrameEnd U o U' L room_1.cells room_1.slots) := by
  refine MetFree.of_bodySF (plainFor_of_name own_pn_com_example_seatwire_seatwire_RoomFitsPinLaw) hisR ?_
  intro p e s m args below meth c s₁ Bd hml0 hP hK
  obtain ⟨rfl, hZ, hh⟩ := hP
  have hx := Bd.exec
  have hby := Bd.bytes
  have hml : c.maxLocals = 24 := hml0
  have hown : s.vm.findClass "com/example/seatwire/seatwire/RoomFitsPinLaw" = some m.cls := findClass_of_methodNamed Bd.named
  have hnm := (name_of_methodNamed Bd.named Bd.method).1
  have X0 : Stand p l e room_1 s m #[(.long q1), (.long q2), (.long q3), (.long q4), (.int p5)] below meth c s₁ [] 0 0 := Stand.of_body Bd
  have e0 : s₁.heap = h0 := by rw [← hh, Bd.state]; rfl
  have N0 := Fr.nil n0
  have pre0 : ∀ t, Steps p.tables e below (s₁.setTop (mkF m 0 #[.val (.long q1), .second, .val (.long q2), .second, .val (.long q3), .second, .val (.long q4), .second, .val (.int p5), .unset, .unset, .unset, .unset, .unset, .unset, .unset, .unset, .unset, .unset, .unset, .unset, .unset, .unset, .unset] [])) t → Steps p.tables e below (s₁.setTop (entryFrame m #[(.long q1), (.long q2), (.long q3), (.long q4), (.int p5)] maxLocals)) t := fun t k => castTop (own_ef_law m q1 q2 q3 q4 p5) k
  obtain ⟨by_, h_by_⟩ : ∃ z : Int64, z = (if (p5 &&& (3 : Int32)) = (3 : Int32) then (q4 >>> ((2 : Int32) &&& 0x3f).toInt64) else (((q1 >>> ((2 : Int32) &&& 0x3f).toInt64) - ((q2 >>> ((3 : Int32) &&& 0x3f).toInt64) + (q3 >>> ((3 : Int32) &&& 0x3f).toInt64))) + (((p5 &&& (3 : Int32)) - (1 : Int32)).toInt64))) := ⟨_, rfl⟩
  have hsm := own_same q1 q2 q3 q4 p5 by_ h_by_
  obtain ⟨T1, h1, X1, e1, E1, A1, D1, -, st1⟩ := newO X0 hx hZ hown (hw _ (List.mem_of_getElem? (i := 0) rfl)) (hw _ (List.mem_of_getElem? (i := 1) rfl)) (hw _ (List.mem_of_getElem? (i := 2) rfl)) e0 (g := (mkF m 57 #[.val (.long q1), .second, .val (.long q2), .second, .val (.long q3), .second, .val (.long q4), .second, .val (.int p5), .val (.long (q1 >>> ((2 : Int32) &&& 0x3f).toInt64)), .second, .val (.long (q2 >>> ((3 : Int32) &&& 0x3f).toInt64)), .second, .val (.long (q3 >>> ((3 : Int32) &&& 0x3f).toInt64)), .second, .val (.long ((q2 >>> ((3 : Int32) &&& 0x3f).toInt64) + (q3 >>> ((3 : Int32) &&& 0x3f).toInt64))), .second, .val (.int (p5 &&& (3 : Int32))), .val (.long by_), .second, .unset, .unset, .unset, .unset] [])) rfl (hb hby at_57) (by decide) (by decide)
  obtain ⟨a, g1⟩ : ∃ z, z = h0.size := ⟨_, rfl⟩
  rw [← g1] at A1 D1 st1
  have gn_a : n0 ≤ a := Nat.le_trans Z0 (Nat.le_of_eq g1.symm)
  have sz1 : n0 ≤ h1.size := Nat.le_trans Z0 E1.1
  have Xe1 := E1
  have E_a := A1
  have F1_a := D1 (Or.inr (hw _ (List.mem_of_getElem? (i := 32) rfl))) (ty := .object "java/util/IdentityHashMap") (by decide)
  have F2_a := D1 (Or.inr (hw _ (List.mem_of_getElem? (i := 34) rfl))) (ty := .long) (by decide)
  have F3_a := D1 (Or.inl (hw _ (List.mem_of_getElem? (i := 41) rfl))) (ty := .long) (by decide)
  obtain ⟨_, _, ⟨T2, L2, k2, n2⟩, -, X2, ⟨Lc2, hQ2, l2, y2, z2⟩, st2⟩ := X1.specialBack hx (y := (⟨"com/example/seatwire/seatwire/Room", "<init>", "(J)V"⟩ : MethodName)) rfl hown (mvT hZ (hw _ (List.mem_of_getElem? (i := 3) rfl))) (mvT hZ (hw _ (List.mem_of_getElem? (i := 4) rfl))) (mvT hZ (hw _ (List.mem_of_getElem? (i := 5) rfl))) (by decide) (backOf (W := 1) (rm_rm l Z a0 hw [] a (q1 >>> ((2 : Int32) &&& 0x3f).toInt64) _ _ h1 n0 sz1 E_a F1_a F2_a F3_a gn_a) hZ (hw _ (List.mem_of_getElem? (i := 5) rfl)) (hw _ (List.mem_of_getElem? (i := 2) rfl)) (by decide) (by decide)) (g := (mkF m 63 #[.val (.long q1), .second, .val (.long q2), .second, .val (.long q3), .second, .val (.long q4), .second, .val (.int p5), .val (.long (q1 >>> ((2 : Int32) &&& 0x3f).toInt64)), .second, .val (.long (q2 >>> ((3 : Int32) &&& 0x3f).toInt64)), .second, .val (.long (q3 >>> ((3 : Int32) &&& 0x3f).toInt64)), .second, .val (.long ((q2 >>> ((3 : Int32) &&& 0x3f).toInt64) + (q3 >>> ((3 : Int32) &&& 0x3f).toInt64))), .second, .val (.int (p5 &&& (3 : Int32))), .val (.long by_), .second, .unset, .unset, .unset, .unset] [(.long (q1 >>> ((2 : Int32) &&& 0x3f).toInt64)), (.ref a), (.ref a)])) rfl (by rw [hml]; rfl) (Steps.refl _) (a := a) (argsL := [(.long (q1 >>> ((2 : Int32) &&& 0x3f).toInt64))]) (rest := [(.ref a)]) (lenOf own_pd2 rfl) rfl (by show 2 * 0 + _ ≤ _; exact Nat.le_of_eq rfl) (hb hby at_63) (fun _ _ => ⟨rfl, e1, (by decide : 1 + 2 ≤ _), (by decide : 3 + 70 ≤ _)⟩)
  dsimp only [Pt.U, Pt.locs, Pt.cells, Pt.slots] at X2 l2 y2 z2 st2 hQ2
  rw [l2, y2, z2] at X2
  obtain ⟨rfl, Nq2, K1, E1, G2, G3⟩ := hQ2
  have sz2 : n0 ≤ T2.heap.size := Nat.le_trans sz1 K1.1
  have N2 := Fr.app N0 Nq2
  obtain ⟨cq3, kq3, q3a, q3b, q3c⟩ := isOf hZ rfl (E1)
  obtain ⟨_, _, ⟨T3, L3, k3, n3⟩, -, X3, ⟨Lc3, hQ3, l3, y3, z3⟩, st3⟩ := X2.virtualBack hx (y := (⟨"com/example/seatwire/seatwire/Room", "use", "(J)V"⟩ : MethodName)) (z := (⟨"com/example/seatwire/seatwire/Room", "use", "(J)V"⟩ : MethodName)) hown (mvT hZ (hw _ (List.mem_of_getElem? (i := 35) rfl))) (mvT hZ (hw _ (List.mem_of_getElem? (i := 36) rfl))) (notFace_of_selects (args := #[]) (mvT hZ (hw _ (List.mem_of_getElem? (i := 38) rfl)))) (mvT hZ (hw _ (List.mem_of_getElem? (i := 38) rfl))) (mvT hZ (hw _ (List.mem_of_getElem? (i := 37) rfl))) (by decide) (backOf (W := 0) (rm_use l Z a0 hw [] a (q2 >>> ((3 : Int32) &&& 0x3f).toInt64) (q1 >>> ((2 : Int32) &&& 0x3f).toInt64) (0 : Int64) T2.heap n0 sz2 E1 G2 G3 gn_a) hZ (hw _ (List.mem_of_getElem? (i := 39) rfl)) (hw _ (List.mem_of_getElem? (i := 2) rfl)) (by decide) (by decide)) q3a q3c (g := (mkF m 72 #[.val (.long q1), .second, .val (.long q2), .second, .val (.long q3), .second, .val (.long q4), .second, .val (.int p5), .val (.long (q1 >>> ((2 : Int32) &&& 0x3f).toInt64)), .second, .val (.long (q2 >>> ((3 : Int32) &&& 0x3f).toInt64)), .second, .val (.long (q3 >>> ((3 : Int32) &&& 0x3f).toInt64)), .second, .val (.long ((q2 >>> ((3 : Int32) &&& 0x3f).toInt64) + (q3 >>> ((3 : Int32) &&& 0x3f).toInt64))), .second, .val (.int (p5 &&& (3 : Int32))), .val (.long by_), .second, .val (.ref a), .unset, .unset, .unset] [(.long (q2 >>> ((3 : Int32) &&& 0x3f).toInt64)), (.ref a)])) rfl (by rw [hml]; rfl) (Steps.refl _) (argsL := [(.long (q2 >>> ((3 : Int32) &&& 0x3f).toInt64))]) (rest := []) (lenOf own_pd2 rfl) rfl (by show 2 * 0 + _ ≤ _; exact Nat.le_of_eq rfl) (hb hby at_72) (fun _ _ => ⟨rfl, rfl, (by decide : 3 + 0 ≤ _), (by decide : 73 + 0 ≤ _)⟩)
  dsimp only [Pt.U, Pt.locs, Pt.cells, Pt.slots] at X3 l3 y3 z3 st3 hQ3
  rw [l3, y3, z3] at X3
  obtain ⟨rfl, Nq3, K2, E2, H2, H3⟩ := hQ3
  have sz3 : n0 ≤ T3.heap.size := Nat.le_trans sz2 K2.1
  have N3 := Fr.app N2 Nq3
  obtain ⟨cq4, kq4, q4a, q4b, q4c⟩ := isOf hZ rfl (E2)
  obtain ⟨_, _, ⟨T4, L4, k4, n4⟩, -, X4, ⟨Lc4, hQ4, l4, y4, z4⟩, st4⟩ := X3.virtualBack hx (y := (⟨"com/example/seatwire/seatwire/Room", "use", "(J)V"⟩ : MethodName)) (z := (⟨"com/example/seatwire/seatwire/Room", "use", "(J)V"⟩ : MethodName)) hown (mvT hZ (hw _ (List.mem_of_getElem? (i := 35) rfl))) (mvT hZ (hw _ (List.mem_of_getElem? (i := 36) rfl))) (notFace_of_selects (args := #[]) (mvT hZ (hw _ (List.mem_of_getElem? (i := 38) rfl)))) (mvT hZ (hw _ (List.mem_of_getElem? (i := 38) rfl))) (mvT hZ (hw _ (List.mem_of_getElem? (i := 37) rfl))) (by decide) (backOf (W := 0) (rm_use l Z a0 hw [] a (q3 >>> ((3 : Int32) &&& 0x3f).toInt64) (q1 >>> ((2 : Int32) &&& 0x3f).toInt64) ((0 : Int64) + (q2 >>> ((3 : Int32) &&& 0x3f).toInt64)) T3.heap n0 sz3 E2 H2 H3 gn_a) hZ (hw _ (List.mem_of_getElem? (i := 39) rfl)) (hw _ (List.mem_of_getElem? (i := 2) rfl)) (by decide) (by decide)) q4a q4c (g := (mkF m 79 #[.val (.long q1), .second, .val (.long q2), .second, .val (.long q3), .second, .val (.long q4), .second, .val (.int p5), .val (.long (q1 >>> ((2 : Int32) &&& 0x3f).toInt64)), .second, .val (.long (q2 >>> ((3 : Int32) &&& 0x3f).toInt64)), .second, .val (.long (q3 >>> ((3 : Int32) &&& 0x3f).toInt64)), .second, .val (.long ((q2 >>> ((3 : Int32) &&& 0x3f).toInt64) + (q3 >>> ((3 : Int32) &&& 0x3f).toInt64))), .second, .val (.int (p5 &&& (3 : Int32))), .val (.long by_), .second, .val (.ref a), .unset, .unset, .unset] [(.long (q3 >>> ((3 : Int32) &&& 0x3f).toInt64)), (.ref a)])) rfl (by rw [hml]; rfl) (Steps.refl _) (argsL := [(.long (q3 >>> ((3 : Int32) &&& 0x3f).toInt64))]) (rest := []) (lenOf own_pd2 rfl) rfl (by show 2 * 0 + _ ≤ _; exact Nat.le_of_eq rfl) (hb hby at_79) (fun _ _ => ⟨rfl, rfl, (by decide : 3 + 0 ≤ _), (by decide : 73 + 0 ≤ _)⟩)
  dsimp only [Pt.U, Pt.locs, Pt.cells, Pt.slots] at X4 l4 y4 z4 st4 hQ4
  rw [l4, y4, z4] at X4
  obtain ⟨rfl, Nq4, K3, E3, I2, I3⟩ := hQ4
  have sz4 : n0 ≤ T4.heap.size := Nat.le_trans sz3 K3.1
  have N4 := Fr.app N3 Nq4
  obtain ⟨ex, h_ex⟩ : ∃ z : Int32, z = (if (((q1 >>> ((2 : Int32) &&& 0x3f).toInt64) - ((q2 >>> ((3 : Int32) &&& 0x3f).toInt64) + (q3 >>> ((3 : Int32) &&& 0x3f).toInt64))) - by_) < (0 : Int64) then (0 : Int32) else (1 : Int32)) := ⟨_, rfl⟩
  have hex : (own_fits (((0 : Int64) + (q2 >>> ((3 : Int32) &&& 0x3f).toInt64)) + (q3 >>> ((3 : Int32) &&& 0x3f).toInt64)) (q1 >>> ((2 : Int32) &&& 0x3f).toInt64) by_) = ex := by
    rw [h_ex]; unfold own_fits; simp only [hsm]
  obtain ⟨cq5, kq5, q5a, q5b, q5c⟩ := isOf hZ rfl (E3)
  obtain ⟨_, _, ⟨T5, L5, k5, n5⟩, -, X5, ⟨Lc5, hQ5, l5, y5, z5⟩, st5⟩ := X4.virtualBack hx (y := (⟨"com/example/seatwire/seatwire/Room", "fits", "(J)Z"⟩ : MethodName)) (z := (⟨"com/example/seatwire/seatwire/Room", "fits", "(J)Z"⟩ : MethodName)) hown (mvT hZ (hw _ (List.mem_of_getElem? (i := 42) rfl))) (mvT hZ (hw _ (List.mem_of_getElem? (i := 43) rfl))) (notFace_of_selects (args := #[]) (mvT hZ (hw _ (List.mem_of_getElem? (i := 45) rfl)))) (mvT hZ (hw _ (List.mem_of_getElem? (i := 45) rfl))) (mvT hZ (hw _ (List.mem_of_getElem? (i := 44) rfl))) (by decide) (backOf (W := 0) (rm_fit l Z a0 hw [] a by_ (q1 >>> ((2 : Int32) &&& 0x3f).toInt64) (((0 : Int64) + (q2 >>> ((3 : Int32) &&& 0x3f).toInt64)) + (q3 >>> ((3 : Int32) &&& 0x3f).toInt64)) T4.heap n0 sz4 I2 I3) hZ (hw _ (List.mem_of_getElem? (i := 46) rfl)) (hw _ (List.mem_of_getElem? (i := 2) rfl)) (by decide) (by decide)) q5a q5c (g := (mkF m 106 #[.val (.long q1), .second, .val (.long q2), .second, .val (.long q3), .second, .val (.long q4), .second, .val (.int p5), .val (.long (q1 >>> ((2 : Int32) &&& 0x3f).toInt64)), .second, .val (.long (q2 >>> ((3 : Int32) &&& 0x3f).toInt64)), .second, .val (.long (q3 >>> ((3 : Int32) &&& 0x3f).toInt64)), .second, .val (.long ((q2 >>> ((3 : Int32) &&& 0x3f).toInt64) + (q3 >>> ((3 : Int32) &&& 0x3f).toInt64))), .second, .val (.int (p5 &&& (3 : Int32))), .val (.long by_), .second, .val (.ref a), .val (.int ex), .unset, .unset] [(.long by_), (.ref a)])) rfl (by rw [hml]; rfl) (Steps.refl _) (argsL := [(.long by_)]) (rest := []) (lenOf own_pd3 rfl) rfl (by show 2 * 0 + _ ≤ _; exact Nat.le_of_eq rfl) (hb hby at_106) (fun _ _ => ⟨rfl, rfl, (by decide : 3 + 0 ≤ _), (by decide : 73 + 0 ≤ _)⟩)
  dsimp only [Pt.U, Pt.locs, Pt.cells, Pt.slots] at X5 l5 y5 z5 st5 hQ5
  rw [l5, y5, z5] at X5
  obtain ⟨rfl, Nq5, e5⟩ := hQ5
  have N5 := Fr.app N4 Nq5
  obtain ⟨cq6, kq6, q6a, q6b, q6c⟩ := isOf hZ e5 (E3)
  obtain ⟨_, _, ⟨T6, L6, k6, n6⟩, -, X6, ⟨Lc6, hQ6, l6, y6, z6⟩, st6⟩ := X5.virtualBack hx (y := (⟨"com/example/seatwire/seatwire/Room", "fits", "(J)Z"⟩ : MethodName)) (z := (⟨"com/example/seatwire/seatwire/Room", "fits", "(J)Z"⟩ : MethodName)) hown (mvT hZ (hw _ (List.mem_of_getElem? (i := 42) rfl))) (mvT hZ (hw _ (List.mem_of_getElem? (i := 43) rfl))) (notFace_of_selects (args := #[]) (mvT hZ (hw _ (List.mem_of_getElem? (i := 45) rfl)))) (mvT hZ (hw _ (List.mem_of_getElem? (i := 45) rfl))) (mvT hZ (hw _ (List.mem_of_getElem? (i := 44) rfl))) (by decide) (backOf (W := 0) (rm_fit l Z a0 hw [] a by_ (q1 >>> ((2 : Int32) &&& 0x3f).toInt64) (((0 : Int64) + (q2 >>> ((3 : Int32) &&& 0x3f).toInt64)) + (q3 >>> ((3 : Int32) &&& 0x3f).toInt64)) T4.heap n0 sz4 I2 I3) hZ (hw _ (List.mem_of_getElem? (i := 46) rfl)) (hw _ (List.mem_of_getElem? (i := 2) rfl)) (by decide) (by decide)) q6a q6c (g := (mkF m 115 #[.val (.long q1), .second, .val (.long q2), .second, .val (.long q3), .second, .val (.long q4), .second, .val (.int p5), .val (.long (q1 >>> ((2 : Int32) &&& 0x3f).toInt64)), .second, .val (.long (q2 >>> ((3 : Int32) &&& 0x3f).toInt64)), .second, .val (.long (q3 >>> ((3 : Int32) &&& 0x3f).toInt64)), .second, .val (.long ((q2 >>> ((3 : Int32) &&& 0x3f).toInt64) + (q3 >>> ((3 : Int32) &&& 0x3f).toInt64))), .second, .val (.int (p5 &&& (3 : Int32))), .val (.long by_), .second, .val (.ref a), .val (.int ex), .val (.int (own_fits (((0 : Int64) + (q2 >>> ((3 : Int32) &&& 0x3f).toInt64)) + (q3 >>> ((3 : Int32) &&& 0x3f).toInt64)) (q1 >>> ((2 : Int32) &&& 0x3f).toInt64) by_)), .unset] [(.long by_), (.ref a)])) rfl (by rw [hml]; rfl) (Steps.refl _) (argsL := [(.long by_)]) (rest := []) (lenOf own_pd3 rfl) rfl (by show 2 * 0 + _ ≤ _; exact Nat.le_of_eq rfl) (hb hby at_115) (fun _ _ => ⟨rfl, e5, (by decide : 3 + 0 ≤ _), (by decide : 73 + 0 ≤ _)⟩)
  dsimp only [Pt.U, Pt.locs, Pt.cells, Pt.slots] at X6 l6 y6 z6 st6 hQ6
  rw [l6, y6, z6] at X6
  obtain ⟨rfl, Nq6, e6⟩ := hQ6
  have N6 := Fr.app N5 Nq6
  obtain ⟨fs, hr, hrun, hended, hW, hsame⟩ := X6.leave (v := some (.int (1 : Int32))) (fun h => by rw [Bd.returns] at h; cases h)
  refine ⟨_, _, pre0 _ ?_, hrun, hended, _, _, rfl, ?_, ⟨_, rfl⟩, hW, hsame.mono (by decide) (by decide)⟩
  · show Steps p.tables e below (s₁.setTop (mkF m 0 #[.val (.long q1), .second, .val (.long q2), .second, .val (.long q3), .second, .val (.long q4), .second, .val (.int p5), .unset, .unset, .unset, .unset, .unset, .unset, .unset, .unset, .unset, .unset, .unset, .unset, .unset, .unset, .unset] [])) _
    refine XS.lloadN X0.here hx rfl (hb hby at_0) rfl ?_
    show Steps p.tables e below (s₁.setTop (mkF m 1 #[.val (.long q1), .second, .val (.long q2), .second, .val (.long q3), .second, .val (.long q4), .second, .val (.int p5), .unset, .unset, .unset, .unset, .unset, .unset, .unset, .unset, .unset, .unset, .unset, .unset, .unset, .unset, .unset] [(.long q1)])) _
    refine XS.iconst X0.here hx rfl (hb hby at_1) ?_
    show Steps p.tables e below (s₁.setTop (mkF m 2 #[.val (.long q1), .second, .val (.long q2), .second, .val (.long q3), .second, .val (.long q4), .second, .val (.int p5), .unset, .unset, .unset, .unset, .unset, .unset, .unset, .unset, .unset, .unset, .unset, .unset, .unset, .unset, .unset] [(.int (2 : Int32)), (.long q1)])) _
    refine XS.lshr X0.here hx rfl (hb hby at_2) rfl ?_
    show Steps p.tables e below (s₁.setTop (mkF m 3 #[.val (.long q1), .second, .val (.long q2), .second, .val (.long q3), .second, .val (.long q4), .second, .val (.int p5), .unset, .unset, .unset, .unset, .unset, .unset, .unset, .unset, .unset, .unset, .unset, .unset, .unset, .unset, .unset] [(.long (q1 >>> ((2 : Int32) &&& 0x3f).toInt64))])) _
    refine XS.lstore X0.here hx rfl (hb hby at_3) rfl (l' := #[.val (.long q1), .second, .val (.long q2), .second, .val (.long q3), .second, .val (.long q4), .second, .val (.int p5), .val (.long (q1 >>> ((2 : Int32) &&& 0x3f).toInt64)), .second, .unset, .unset, .unset, .unset, .unset, .unset, .unset, .unset, .unset, .unset, .unset, .unset, .unset]) rfl ?_
    show Steps p.tables e below (s₁.setTop (mkF m 5 #[.val (.long q1), .second, .val (.long q2), .second, .val (.long q3), .second, .val (.long q4), .second, .val (.int p5), .val (.long (q1 >>> ((2 : Int32) &&& 0x3f).toInt64)), .second, .unset, .unset, .unset, .unset, .unset, .unset, .unset, .unset, .unset, .unset, .unset, .unset, .unset] [])) _
    refine XS.lloadN X0.here hx rfl (hb hby at_5) rfl ?_
    show Steps p.tables e below (s₁.setTop (mkF m 6 #[.val (.long q1), .second, .val (.long q2), .second, .val (.long q3), .second, .val (.long q4), .second, .val (.int p5), .val (.long (q1 >>> ((2 : Int32) &&& 0x3f).toInt64)), .second, .unset, .unset, .unset, .unset, .unset, .unset, .unset, .unset, .unset, .unset, .unset, .unset, .unset] [(.long q2)])) _
    refine XS.iconst X0.here hx rfl (hb hby at_6) ?_
    show Steps p.tables e below (s₁.setTop (mkF m 7 #[.val (.long q1), .second, .val (.long q2), .second, .val (.long q3), .second, .val (.long q4), .second, .val (.int p5), .val (.long (q1 >>> ((2 : Int32) &&& 0x3f).toInt64)), .second, .unset, .unset, .unset, .unset, .unset, .unset, .unset, .unset, .unset, .unset, .unset, .unset, .unset] [(.int (3 : Int32)), (.long q2)])) _
    refine XS.lshr X0.here hx rfl (hb hby at_7) rfl ?_
    show Steps p.tables e below (s₁.setTop (mkF m 8 #[.val (.long q1), .second, .val (.long q2), .second, .val (.long q3), .second, .val (.long q4), .second, .val (.int p5), .val (.long (q1 >>> ((2 : Int32) &&& 0x3f).toInt64)), .second, .unset, .unset, .unset, .unset, .unset, .unset, .unset, .unset, .unset, .unset, .unset, .unset, .unset] [(.long (q2 >>> ((3 : Int32) &&& 0x3f).toInt64))])) _
    refine XS.lstore X0.here hx rfl (hb hby at_8) rfl (l' := #[.val (.long q1), .second, .val (.long q2), .second, .val (.long q3), .second, .val (.long q4), .second, .val (.int p5), .val (.long (q1 >>> ((2 : Int32) &&& 0x3f).toInt64)), .second, .val (.long (q2 >>> ((3 : Int32) &&& 0x3f).toInt64)), .second, .unset, .unset, .unset, .unset, .unset, .unset, .unset, .unset, .unset, .unset, .unset]) rfl ?_
    show Steps p.tables e below (s₁.setTop (mkF m 10 #[.val (.long q1), .second, .val (.long q2), .second, .val (.long q3), .second, .val (.long q4), .second, .val (.int p5), .val (.long (q1 >>> ((2 : Int32) &&& 0x3f).toInt64)), .second, .val (.long (q2 >>> ((3 : Int32) &&& 0x3f).toInt64)), .second, .unset, .unset, .unset, .unset, .unset, .unset, .unset, .unset, .unset, .unset, .unset] [])) _
    refine XS.lload X0.here hx rfl (hb hby at_10) rfl ?_
    show Steps p.tables e below (s₁.setTop (mkF m 12 #[.val (.long q1), .second, .val (.long q2), .second, .val (.long q3), .second, .val (.long q4), .second, .val (.int p5), .val (.long (q1 >>> ((2 : Int32) &&& 0x3f).toInt64)), .second, .val (.long (q2 >>> ((3 : Int32) &&& 0x3f).toInt64)), .second, .unset, .unset, .unset, .unset, .unset, .unset, .unset, .unset, .unset, .unset, .unset] [(.long q3)])) _
    refine XS.iconst X0.here hx rfl (hb hby at_12) ?_
    show Steps p.tables e below (s₁.setTop (mkF m 13 #[.val (.long q1), .second, .val (.long q2), .second, .val (.long q3), .second, .val (.long q4), .second, .val (.int p5), .val (.long (q1 >>> ((2 : Int32) &&& 0x3f).toInt64)), .second, .val (.long (q2 >>> ((3 : Int32) &&& 0x3f).toInt64)), .second, .unset, .unset, .unset, .unset, .unset, .unset, .unset, .unset, .unset, .unset, .unset] [(.int (3 : Int32)), (.long q3)])) _
    refine XS.lshr X0.here hx rfl (hb hby at_13) rfl ?_
    show Steps p.tables e below (s₁.setTop (mkF m 14 #[.val (.long q1), .second, .val (.long q2), .second, .val (.long q3), .second, .val (.long q4), .second, .val (.int p5), .val (.long (q1 >>> ((2 : Int32) &&& 0x3f).toInt64)), .second, .val (.long (q2 >>> ((3 : Int32) &&& 0x3f).toInt64)), .second, .unset, .unset, .unset, .unset, .unset, .unset, .unset, .unset, .unset, .unset, .unset] [(.long (q3 >>> ((3 : Int32) &&& 0x3f).toInt64))])) _
    refine XS.lstore X0.here hx rfl (hb hby at_14) rfl (l' := #[.val (.long q1), .second, .val (.long q2), .second, .val (.long q3), .second, .val (.long q4), .second, .val (.int p5), .val (.long (q1 >>> ((2 : Int32) &&& 0x3f).toInt64)), .second, .val (.long (q2 >>> ((3 : Int32) &&& 0x3f).toInt64)), .second, .val (.long (q3 >>> ((3 : Int32) &&& 0x3f).toInt64)), .second, .unset, .unset, .unset, .unset, .unset, .unset, .unset, .unset, .unset]) rfl ?_
    show Steps p.tables e below (s₁.setTop (mkF m 16 #[.val (.long q1), .second, .val (.long q2), .second, .val (.long q3), .second, .val (.long q4), .second, .val (.int p5), .val (.long (q1 >>> ((2 : Int32) &&& 0x3f).toInt64)), .second, .val (.long (q2 >>> ((3 : Int32) &&& 0x3f).toInt64)), .second, .val (.long (q3 >>> ((3 : Int32) &&& 0x3f).toInt64)), .second, .unset, .unset, .unset, .unset, .unset, .unset, .unset, .unset, .unset] [])) _
    refine XS.lload X0.here hx rfl (hb hby at_16) rfl ?_
    show Steps p.tables e below (s₁.setTop (mkF m 18 #[.val (.long q1), .second, .val (.long q2), .second, .val (.long q3), .second, .val (.long q4), .second, .val (.int p5), .val (.long (q1 >>> ((2 : Int32) &&& 0x3f).toInt64)), .second, .val (.long (q2 >>> ((3 : Int32) &&& 0x3f).toInt64)), .second, .val (.long (q3 >>> ((3 : Int32) &&& 0x3f).toInt64)), .second, .unset, .unset, .unset, .unset, .unset, .unset, .unset, .unset, .unset] [(.long (q2 >>> ((3 : Int32) &&& 0x3f).toInt64))])) _
    refine XS.lload X0.here hx rfl (hb hby at_18) rfl ?_
    show Steps p.tables e below (s₁.setTop (mkF m 20 #[.val (.long q1), .second, .val (.long q2), .second, .val (.long q3), .second, .val (.long q4), .second, .val (.int p5), .val (.long (q1 >>> ((2 : Int32) &&& 0x3f).toInt64)), .second, .val (.long (q2 >>> ((3 : Int32) &&& 0x3f).toInt64)), .second, .val (.long (q3 >>> ((3 : Int32) &&& 0x3f).toInt64)), .second, .unset, .unset, .unset, .unset, .unset, .unset, .unset, .unset, .unset] [(.long (q3 >>> ((3 : Int32) &&& 0x3f).toInt64)), (.long (q2 >>> ((3 : Int32) &&& 0x3f).toInt64))])) _
    refine XS.ladd X0.here hx rfl (hb hby at_20) rfl ?_
    show Steps p.tables e below (s₁.setTop (mkF m 21 #[.val (.long q1), .second, .val (.long q2), .second, .val (.long q3), .second, .val (.long q4), .second, .val (.int p5), .val (.long (q1 >>> ((2 : Int32) &&& 0x3f).toInt64)), .second, .val (.long (q2 >>> ((3 : Int32) &&& 0x3f).toInt64)), .second, .val (.long (q3 >>> ((3 : Int32) &&& 0x3f).toInt64)), .second, .unset, .unset, .unset, .unset, .unset, .unset, .unset, .unset, .unset] [(.long ((q2 >>> ((3 : Int32) &&& 0x3f).toInt64) + (q3 >>> ((3 : Int32) &&& 0x3f).toInt64)))])) _
    refine XS.lstore X0.here hx rfl (hb hby at_21) rfl (l' := #[.val (.long q1), .second, .val (.long q2), .second, .val (.long q3), .second, .val (.long q4), .second, .val (.int p5), .val (.long (q1 >>> ((2 : Int32) &&& 0x3f).toInt64)), .second, .val (.long (q2 >>> ((3 : Int32) &&& 0x3f).toInt64)), .second, .val (.long (q3 >>> ((3 : Int32) &&& 0x3f).toInt64)), .second, .val (.long ((q2 >>> ((3 : Int32) &&& 0x3f).toInt64) + (q3 >>> ((3 : Int32) &&& 0x3f).toInt64))), .second, .unset, .unset, .unset, .unset, .unset, .unset, .unset]) rfl ?_
    show Steps p.tables e below (s₁.setTop (mkF m 23 #[.val (.long q1), .second, .val (.long q2), .second, .val (.long q3), .second, .val (.long q4), .second, .val (.int p5), .val (.long (q1 >>> ((2 : Int32) &&& 0x3f).toInt64)), .second, .val (.long (q2 >>> ((3 : Int32) &&& 0x3f).toInt64)), .second, .val (.long (q3 >>> ((3 : Int32) &&& 0x3f).toInt64)), .second, .val (.long ((q2 >>> ((3 : Int32) &&& 0x3f).toInt64) + (q3 >>> ((3 : Int32) &&& 0x3f).toInt64))), .second, .unset, .unset, .unset, .unset, .unset, .unset, .unset] [])) _
    refine XS.iload X0.here hx rfl (hb hby at_23) rfl ?_
    show Steps p.tables e below (s₁.setTop (mkF m 25 #[.val (.long q1), .second, .val (.long q2), .second, .val (.long q3), .second, .val (.long q4), .second, .val (.int p5), .val (.long (q1 >>> ((2 : Int32) &&& 0x3f).toInt64)), .second, .val (.long (q2 >>> ((3 : Int32) &&& 0x3f).toInt64)), .second, .val (.long (q3 >>> ((3 : Int32) &&& 0x3f).toInt64)), .second, .val (.long ((q2 >>> ((3 : Int32) &&& 0x3f).toInt64) + (q3 >>> ((3 : Int32) &&& 0x3f).toInt64))), .second, .unset, .unset, .unset, .unset, .unset, .unset, .unset] [(.int p5)])) _
    refine XS.iconst X0.here hx rfl (hb hby at_25) ?_
    show Steps p.tables e below (s₁.setTop (mkF m 26 #[.val (.long q1), .second, .val (.long q2), .second, .val (.long q3), .second, .val (.long q4), .second, .val (.int p5), .val (.long (q1 >>> ((2 : Int32) &&& 0x3f).toInt64)), .second, .val (.long (q2 >>> ((3 : Int32) &&& 0x3f).toInt64)), .second, .val (.long (q3 >>> ((3 : Int32) &&& 0x3f).toInt64)), .second, .val (.long ((q2 >>> ((3 : Int32) &&& 0x3f).toInt64) + (q3 >>> ((3 : Int32) &&& 0x3f).toInt64))), .second, .unset, .unset, .unset, .unset, .unset, .unset, .unset] [(.int (3 : Int32)), (.int p5)])) _
    refine XS.iand X0.here hx rfl (hb hby at_26) rfl ?_
    show Steps p.tables e below (s₁.setTop (mkF m 27 #[.val (.long q1), .second, .val (.long q2), .second, .val (.long q3), .second, .val (.long q4), .second, .val (.int p5), .val (.long (q1 >>> ((2 : Int32) &&& 0x3f).toInt64)), .second, .val (.long (q2 >>> ((3 : Int32) &&& 0x3f).toInt64)), .second, .val (.long (q3 >>> ((3 : Int32) &&& 0x3f).toInt64)), .second, .val (.long ((q2 >>> ((3 : Int32) &&& 0x3f).toInt64) + (q3 >>> ((3 : Int32) &&& 0x3f).toInt64))), .second, .unset, .unset, .unset, .unset, .unset, .unset, .unset] [(.int (p5 &&& (3 : Int32)))])) _
    refine XS.istore X0.here hx rfl (hb hby at_27) rfl (l' := #[.val (.long q1), .second, .val (.long q2), .second, .val (.long q3), .second, .val (.long q4), .second, .val (.int p5), .val (.long (q1 >>> ((2 : Int32) &&& 0x3f).toInt64)), .second, .val (.long (q2 >>> ((3 : Int32) &&& 0x3f).toInt64)), .second, .val (.long (q3 >>> ((3 : Int32) &&& 0x3f).toInt64)), .second, .val (.long ((q2 >>> ((3 : Int32) &&& 0x3f).toInt64) + (q3 >>> ((3 : Int32) &&& 0x3f).toInt64))), .second, .val (.int (p5 &&& (3 : Int32))), .unset, .unset, .unset, .unset, .unset, .unset]) rfl ?_
    show Steps p.tables e below (s₁.setTop (mkF m 29 #[.val (.long q1), .second, .val (.long q2), .second, .val (.long q3), .second, .val (.long q4), .second, .val (.int p5), .val (.long (q1 >>> ((2 : Int32) &&& 0x3f).toInt64)), .second, .val (.long (q2 >>> ((3 : Int32) &&& 0x3f).toInt64)), .second, .val (.long (q3 >>> ((3 : Int32) &&& 0x3f).toInt64)), .second, .val (.long ((q2 >>> ((3 : Int32) &&& 0x3f).toInt64) + (q3 >>> ((3 : Int32) &&& 0x3f).toInt64))), .second, .val (.int (p5 &&& (3 : Int32))), .unset, .unset, .unset, .unset, .unset, .unset] [])) _
    refine XS.iload X0.here hx rfl (hb hby at_29) rfl ?_
    show Steps p.tables e below (s₁.setTop (mkF m 31 #[.val (.long q1), .second, .val (.long q2), .second, .val (.long q3), .second, .val (.long q4), .second, .val (.int p5), .val (.long (q1 >>> ((2 : Int32) &&& 0x3f).toInt64)), .second, .val (.long (q2 >>> ((3 : Int32) &&& 0x3f).toInt64)), .second, .val (.long (q3 >>> ((3 : Int32) &&& 0x3f).toInt64)), .second, .val (.long ((q2 >>> ((3 : Int32) &&& 0x3f).toInt64) + (q3 >>> ((3 : Int32) &&& 0x3f).toInt64))), .second, .val (.int (p5 &&& (3 : Int32))), .unset, .unset, .unset, .unset, .unset, .unset] [(.int (p5 &&& (3 : Int32)))])) _
    refine XS.iconst X0.here hx rfl (hb hby at_31) ?_
    show Steps p.tables e below (s₁.setTop (mkF m 32 #[.val (.long q1), .second, .val (.long q2), .second, .val (.long q3), .second, .val (.long q4), .second, .val (.int p5), .val (.long (q1 >>> ((2 : Int32) &&& 0x3f).toInt64)), .second, .val (.long (q2 >>> ((3 : Int32) &&& 0x3f).toInt64)), .second, .val (.long (q3 >>> ((3 : Int32) &&& 0x3f).toInt64)), .second, .val (.long ((q2 >>> ((3 : Int32) &&& 0x3f).toInt64) + (q3 >>> ((3 : Int32) &&& 0x3f).toInt64))), .second, .val (.int (p5 &&& (3 : Int32))), .unset, .unset, .unset, .unset, .unset, .unset] [(.int (3 : Int32)), (.int (p5 &&& (3 : Int32)))])) _
    refine (show ∀ tt, Steps p.tables e below (s₁.setTop (mkF m 57 #[.val (.long q1), .second, .val (.long q2), .second, .val (.long q3), .second, .val (.long q4), .second, .val (.int p5), .val (.long (q1 >>> ((2 : Int32) &&& 0x3f).toInt64)), .second, .val (.long (q2 >>> ((3 : Int32) &&& 0x3f).toInt64)), .second, .val (.long (q3 >>> ((3 : Int32) &&& 0x3f).toInt64)), .second, .val (.long ((q2 >>> ((3 : Int32) &&& 0x3f).toInt64) + (q3 >>> ((3 : Int32) &&& 0x3f).toInt64))), .second, .val (.int (p5 &&& (3 : Int32))), .val (.long by_), .second, .unset, .unset, .unset, .unset] [])) tt → Steps p.tables e below (s₁.setTop (mkF m 32 #[.val (.long q1), .second, .val (.long q2), .second, .val (.long q3), .second, .val (.long q4), .second, .val (.int p5), .val (.long (q1 >>> ((2 : Int32) &&& 0x3f).toInt64)), .second, .val (.long (q2 >>> ((3 : Int32) &&& 0x3f).toInt64)), .second, .val (.long (q3 >>> ((3 : Int32) &&& 0x3f).toInt64)), .second, .val (.long ((q2 >>> ((3 : Int32) &&& 0x3f).toInt64) + (q3 >>> ((3 : Int32) &&& 0x3f).toInt64))), .second, .val (.int (p5 &&& (3 : Int32))), .unset, .unset, .unset, .unset, .unset, .unset] [(.int (3 : Int32)), (.int (p5 &&& (3 : Int32)))])) tt from ?_) _ ?_
    · intro tt kt
      by_cases c0 : (p5 &&& (3 : Int32)) = (3 : Int32)
      · rw [h_by_, if_pos c0] at kt
        show Steps p.tables e below (s₁.setTop (mkF m 32 #[.val (.long q1), .second, .val (.long q2), .second, .val (.long q3), .second, .val (.long q4), .second, .val (.int p5), .val (.long (q1 >>> ((2 : Int32) &&& 0x3f).toInt64)), .second, .val (.long (q2 >>> ((3 : Int32) &&& 0x3f).toInt64)), .second, .val (.long (q3 >>> ((3 : Int32) &&& 0x3f).toInt64)), .second, .val (.long ((q2 >>> ((3 : Int32) &&& 0x3f).toInt64) + (q3 >>> ((3 : Int32) &&& 0x3f).toInt64))), .second, .val (.int (p5 &&& (3 : Int32))), .unset, .unset, .unset, .unset, .unset, .unset] [(.int (3 : Int32)), (.int (p5 &&& (3 : Int32)))])) _
        refine XS.icmpNo X0.here hx rfl (hb hby at_32) rfl (teq c0).2 ?_
        show Steps p.tables e below (s₁.setTop (mkF m 35 #[.val (.long q1), .second, .val (.long q2), .second, .val (.long q3), .second, .val (.long q4), .second, .val (.int p5), .val (.long (q1 >>> ((2 : Int32) &&& 0x3f).toInt64)), .second, .val (.long (q2 >>> ((3 : Int32) &&& 0x3f).toInt64)), .second, .val (.long (q3 >>> ((3 : Int32) &&& 0x3f).toInt64)), .second, .val (.long ((q2 >>> ((3 : Int32) &&& 0x3f).toInt64) + (q3 >>> ((3 : Int32) &&& 0x3f).toInt64))), .second, .val (.int (p5 &&& (3 : Int32))), .unset, .unset, .unset, .unset, .unset, .unset] [])) _
        refine XS.lload X0.here hx rfl (hb hby at_35) rfl ?_
        show Steps p.tables e below (s₁.setTop (mkF m 37 #[.val (.long q1), .second, .val (.long q2), .second, .val (.long q3), .second, .val (.long q4), .second, .val (.int p5), .val (.long (q1 >>> ((2 : Int32) &&& 0x3f).toInt64)), .second, .val (.long (q2 >>> ((3 : Int32) &&& 0x3f).toInt64)), .second, .val (.long (q3 >>> ((3 : Int32) &&& 0x3f).toInt64)), .second, .val (.long ((q2 >>> ((3 : Int32) &&& 0x3f).toInt64) + (q3 >>> ((3 : Int32) &&& 0x3f).toInt64))), .second, .val (.int (p5 &&& (3 : Int32))), .unset, .unset, .unset, .unset, .unset, .unset] [(.long q4)])) _
        refine XS.iconst X0.here hx rfl (hb hby at_37) ?_
        show Steps p.tables e below (s₁.setTop (mkF m 38 #[.val (.long q1), .second, .val (.long q2), .second, .val (.long q3), .second, .val (.long q4), .second, .val (.int p5), .val (.long (q1 >>> ((2 : Int32) &&& 0x3f).toInt64)), .second, .val (.long (q2 >>> ((3 : Int32) &&& 0x3f).toInt64)), .second, .val (.long (q3 >>> ((3 : Int32) &&& 0x3f).toInt64)), .second, .val (.long ((q2 >>> ((3 : Int32) &&& 0x3f).toInt64) + (q3 >>> ((3 : Int32) &&& 0x3f).toInt64))), .second, .val (.int (p5 &&& (3 : Int32))), .unset, .unset, .unset, .unset, .unset, .unset] [(.int (2 : Int32)), (.long q4)])) _
        refine XS.lshr X0.here hx rfl (hb hby at_38) rfl ?_
        show Steps p.tables e below (s₁.setTop (mkF m 39 #[.val (.long q1), .second, .val (.long q2), .second, .val (.long q3), .second, .val (.long q4), .second, .val (.int p5), .val (.long (q1 >>> ((2 : Int32) &&& 0x3f).toInt64)), .second, .val (.long (q2 >>> ((3 : Int32) &&& 0x3f).toInt64)), .second, .val (.long (q3 >>> ((3 : Int32) &&& 0x3f).toInt64)), .second, .val (.long ((q2 >>> ((3 : Int32) &&& 0x3f).toInt64) + (q3 >>> ((3 : Int32) &&& 0x3f).toInt64))), .second, .val (.int (p5 &&& (3 : Int32))), .unset, .unset, .unset, .unset, .unset, .unset] [(.long (q4 >>> ((2 : Int32) &&& 0x3f).toInt64))])) _
        refine XS.lstore X0.here hx rfl (hb hby at_39) rfl (l' := #[.val (.long q1), .second, .val (.long q2), .second, .val (.long q3), .second, .val (.long q4), .second, .val (.int p5), .val (.long (q1 >>> ((2 : Int32) &&& 0x3f).toInt64)), .second, .val (.long (q2 >>> ((3 : Int32) &&& 0x3f).toInt64)), .second, .val (.long (q3 >>> ((3 : Int32) &&& 0x3f).toInt64)), .second, .val (.long ((q2 >>> ((3 : Int32) &&& 0x3f).toInt64) + (q3 >>> ((3 : Int32) &&& 0x3f).toInt64))), .second, .val (.int (p5 &&& (3 : Int32))), .val (.long (q4 >>> ((2 : Int32) &&& 0x3f).toInt64)), .second, .unset, .unset, .unset, .unset]) rfl ?_
        show Steps p.tables e below (s₁.setTop (mkF m 41 #[.val (.long q1), .second, .val (.long q2), .second, .val (.long q3), .second, .val (.long q4), .second, .val (.int p5), .val (.long (q1 >>> ((2 : Int32) &&& 0x3f).toInt64)), .second, .val (.long (q2 >>> ((3 : Int32) &&& 0x3f).toInt64)), .second, .val (.long (q3 >>> ((3 : Int32) &&& 0x3f).toInt64)), .second, .val (.long ((q2 >>> ((3 : Int32) &&& 0x3f).toInt64) + (q3 >>> ((3 : Int32) &&& 0x3f).toInt64))), .second, .val (.int (p5 &&& (3 : Int32))), .val (.long (q4 >>> ((2 : Int32) &&& 0x3f).toInt64)), .second, .unset, .unset, .unset, .unset] [])) _
        refine XS.goto X0.here hx rfl (pc0 := 41) (pc' := 57) rfl (hb hby at_41) (by decide) (by decide) ?_
        exact kt
      · rw [h_by_, if_neg c0] at kt
        show Steps p.tables e below (s₁.setTop (mkF m 32 #[.val (.long q1), .second, .val (.long q2), .second, .val (.long q3), .second, .val (.long q4), .second, .val (.int p5), .val (.long (q1 >>> ((2 : Int32) &&& 0x3f).toInt64)), .second, .val (.long (q2 >>> ((3 : Int32) &&& 0x3f).toInt64)), .second, .val (.long (q3 >>> ((3 : Int32) &&& 0x3f).toInt64)), .second, .val (.long ((q2 >>> ((3 : Int32) &&& 0x3f).toInt64) + (q3 >>> ((3 : Int32) &&& 0x3f).toInt64))), .second, .val (.int (p5 &&& (3 : Int32))), .unset, .unset, .unset, .unset, .unset, .unset] [(.int (3 : Int32)), (.int (p5 &&& (3 : Int32)))])) _
        refine XS.icmpYes X0.here hx rfl (pc0 := 32) (pc' := 44) rfl (hb hby at_32) rfl (feq c0).2 (by decide) (by decide) ?_
        show Steps p.tables e below (s₁.setTop (mkF m 44 #[.val (.long q1), .second, .val (.long q2), .second, .val (.long q3), .second, .val (.long q4), .second, .val (.int p5), .val (.long (q1 >>> ((2 : Int32) &&& 0x3f).toInt64)), .second, .val (.long (q2 >>> ((3 : Int32) &&& 0x3f).toInt64)), .second, .val (.long (q3 >>> ((3 : Int32) &&& 0x3f).toInt64)), .second, .val (.long ((q2 >>> ((3 : Int32) &&& 0x3f).toInt64) + (q3 >>> ((3 : Int32) &&& 0x3f).toInt64))), .second, .val (.int (p5 &&& (3 : Int32))), .unset, .unset, .unset, .unset, .unset, .unset] [])) _
        refine XS.lload X0.here hx rfl (hb hby at_44) rfl ?_
        show Steps p.tables e below (s₁.setTop (mkF m 46 #[.val (.long q1), .second, .val (.long q2), .second, .val (.long q3), .second, .val (.long q4), .second, .val (.int p5), .val (.long (q1 >>> ((2 : Int32) &&& 0x3f).toInt64)), .second, .val (.long (q2 >>> ((3 : Int32) &&& 0x3f).toInt64)), .second, .val (.long (q3 >>> ((3 : Int32) &&& 0x3f).toInt64)), .second, .val (.long ((q2 >>> ((3 : Int32) &&& 0x3f).toInt64) + (q3 >>> ((3 : Int32) &&& 0x3f).toInt64))), .second, .val (.int (p5 &&& (3 : Int32))), .unset, .unset, .unset, .unset, .unset, .unset] [(.long (q1 >>> ((2 : Int32) &&& 0x3f).toInt64))])) _
        refine XS.lload X0.here hx rfl (hb hby at_46) rfl ?_
        show Steps p.tables e below (s₁.setTop (mkF m 48 #[.val (.long q1), .second, .val (.long q2), .second, .val (.long q3), .second, .val (.long q4), .second, .val (.int p5), .val (.long (q1 >>> ((2 : Int32) &&& 0x3f).toInt64)), .second, .val (.long (q2 >>> ((3 : Int32) &&& 0x3f).toInt64)), .second, .val (.long (q3 >>> ((3 : Int32) &&& 0x3f).toInt64)), .second, .val (.long ((q2 >>> ((3 : Int32) &&& 0x3f).toInt64) + (q3 >>> ((3 : Int32) &&& 0x3f).toInt64))), .second, .val (.int (p5 &&& (3 : Int32))), .unset, .unset, .unset, .unset, .unset, .unset] [(.long ((q2 >>> ((3 : Int32) &&& 0x3f).toInt64) + (q3 >>> ((3 : Int32) &&& 0x3f).toInt64))), (.long (q1 >>> ((2 : Int32) &&& 0x3f).toInt64))])) _
        refine XS.lsub X0.here hx rfl (hb hby at_48) rfl ?_
        show Steps p.tables e below (s₁.setTop (mkF m 49 #[.val (.long q1), .second, .val (.long q2), .second, .val (.long q3), .second, .val (.long q4), .second, .val (.int p5), .val (.long (q1 >>> ((2 : Int32) &&& 0x3f).toInt64)), .second, .val (.long (q2 >>> ((3 : Int32) &&& 0x3f).toInt64)), .second, .val (.long (q3 >>> ((3 : Int32) &&& 0x3f).toInt64)), .second, .val (.long ((q2 >>> ((3 : Int32) &&& 0x3f).toInt64) + (q3 >>> ((3 : Int32) &&& 0x3f).toInt64))), .second, .val (.int (p5 &&& (3 : Int32))), .unset, .unset, .unset, .unset, .unset, .unset] [(.long ((q1 >>> ((2 : Int32) &&& 0x3f).toInt64) - ((q2 >>> ((3 : Int32) &&& 0x3f).toInt64) + (q3 >>> ((3 : Int32) &&& 0x3f).toInt64))))])) _
        refine XS.iload X0.here hx rfl (hb hby at_49) rfl ?_
        show Steps p.tables e below (s₁.setTop (mkF m 51 #[.val (.long q1), .second, .val (.long q2), .second, .val (.long q3), .second, .val (.long q4), .second, .val (.int p5), .val (.long (q1 >>> ((2 : Int32) &&& 0x3f).toInt64)), .second, .val (.long (q2 >>> ((3 : Int32) &&& 0x3f).toInt64)), .second, .val (.long (q3 >>> ((3 : Int32) &&& 0x3f).toInt64)), .second, .val (.long ((q2 >>> ((3 : Int32) &&& 0x3f).toInt64) + (q3 >>> ((3 : Int32) &&& 0x3f).toInt64))), .second, .val (.int (p5 &&& (3 : Int32))), .unset, .unset, .unset, .unset, .unset, .unset] [(.int (p5 &&& (3 : Int32))), (.long ((q1 >>> ((2 : Int32) &&& 0x3f).toInt64) - ((q2 >>> ((3 : Int32) &&& 0x3f).toInt64) + (q3 >>> ((3 : Int32) &&& 0x3f).toInt64))))])) _
        refine XS.iconst X0.here hx rfl (hb hby at_51) ?_
        show Steps p.tables e below (s₁.setTop (mkF m 52 #[.val (.long q1), .second, .val (.long q2), .second, .val (.long q3), .second, .val (.long q4), .second, .val (.int p5), .val (.long (q1 >>> ((2 : Int32) &&& 0x3f).toInt64)), .second, .val (.long (q2 >>> ((3 : Int32) &&& 0x3f).toInt64)), .second, .val (.long (q3 >>> ((3 : Int32) &&& 0x3f).toInt64)), .second, .val (.long ((q2 >>> ((3 : Int32) &&& 0x3f).toInt64) + (q3 >>> ((3 : Int32) &&& 0x3f).toInt64))), .second, .val (.int (p5 &&& (3 : Int32))), .unset, .unset, .unset, .unset, .unset, .unset] [(.int (1 : Int32)), (.int (p5 &&& (3 : Int32))), (.long ((q1 >>> ((2 : Int32) &&& 0x3f).toInt64) - ((q2 >>> ((3 : Int32) &&& 0x3f).toInt64) + (q3 >>> ((3 : Int32) &&& 0x3f).toInt64))))])) _
        refine XS.isub X0.here hx rfl (hb hby at_52) rfl ?_
        show Steps p.tables e below (s₁.setTop (mkF m 53 #[.val (.long q1), .second, .val (.long q2), .second, .val (.long q3), .second, .val (.long q4), .second, .val (.int p5), .val (.long (q1 >>> ((2 : Int32) &&& 0x3f).toInt64)), .second, .val (.long (q2 >>> ((3 : Int32) &&& 0x3f).toInt64)), .second, .val (.long (q3 >>> ((3 : Int32) &&& 0x3f).toInt64)), .second, .val (.long ((q2 >>> ((3 : Int32) &&& 0x3f).toInt64) + (q3 >>> ((3 : Int32) &&& 0x3f).toInt64))), .second, .val (.int (p5 &&& (3 : Int32))), .unset, .unset, .unset, .unset, .unset, .unset] [(.int ((p5 &&& (3 : Int32)) - (1 : Int32))), (.long ((q1 >>> ((2 : Int32) &&& 0x3f).toInt64) - ((q2 >>> ((3 : Int32) &&& 0x3f).toInt64) + (q3 >>> ((3 : Int32) &&& 0x3f).toInt64))))])) _
        refine XS.i2l X0.here hx rfl (hb hby at_53) rfl ?_
        show Steps p.tables e below (s₁.setTop (mkF m 54 #[.val (.long q1), .second, .val (.long q2), .second, .val (.long q3), .second, .val (.long q4), .second, .val (.int p5), .val (.long (q1 >>> ((2 : Int32) &&& 0x3f).toInt64)), .second, .val (.long (q2 >>> ((3 : Int32) &&& 0x3f).toInt64)), .second, .val (.long (q3 >>> ((3 : Int32) &&& 0x3f).toInt64)), .second, .val (.long ((q2 >>> ((3 : Int32) &&& 0x3f).toInt64) + (q3 >>> ((3 : Int32) &&& 0x3f).toInt64))), .second, .val (.int (p5 &&& (3 : Int32))), .unset, .unset, .unset, .unset, .unset, .unset] [(.long (((p5 &&& (3 : Int32)) - (1 : Int32)).toInt64)), (.long ((q1 >>> ((2 : Int32) &&& 0x3f).toInt64) - ((q2 >>> ((3 : Int32) &&& 0x3f).toInt64) + (q3 >>> ((3 : Int32) &&& 0x3f).toInt64))))])) _
        refine XS.ladd X0.here hx rfl (hb hby at_54) rfl ?_
        show Steps p.tables e below (s₁.setTop (mkF m 55 #[.val (.long q1), .second, .val (.long q2), .second, .val (.long q3), .second, .val (.long q4), .second, .val (.int p5), .val (.long (q1 >>> ((2 : Int32) &&& 0x3f).toInt64)), .second, .val (.long (q2 >>> ((3 : Int32) &&& 0x3f).toInt64)), .second, .val (.long (q3 >>> ((3 : Int32) &&& 0x3f).toInt64)), .second, .val (.long ((q2 >>> ((3 : Int32) &&& 0x3f).toInt64) + (q3 >>> ((3 : Int32) &&& 0x3f).toInt64))), .second, .val (.int (p5 &&& (3 : Int32))), .unset, .unset, .unset, .unset, .unset, .unset] [(.long (((q1 >>> ((2 : Int32) &&& 0x3f).toInt64) - ((q2 >>> ((3 : Int32) &&& 0x3f).toInt64) + (q3 >>> ((3 : Int32) &&& 0x3f).toInt64))) + (((p5 &&& (3 : Int32)) - (1 : Int32)).toInt64)))])) _
        refine XS.lstore X0.here hx rfl (hb hby at_55) rfl (l' := #[.val (.long q1), .second, .val (.long q2), .second, .val (.long q3), .second, .val (.long q4), .second, .val (.int p5), .val (.long (q1 >>> ((2 : Int32) &&& 0x3f).toInt64)), .second, .val (.long (q2 >>> ((3 : Int32) &&& 0x3f).toInt64)), .second, .val (.long (q3 >>> ((3 : Int32) &&& 0x3f).toInt64)), .second, .val (.long ((q2 >>> ((3 : Int32) &&& 0x3f).toInt64) + (q3 >>> ((3 : Int32) &&& 0x3f).toInt64))), .second, .val (.int (p5 &&& (3 : Int32))), .val (.long (((q1 >>> ((2 : Int32) &&& 0x3f).toInt64) - ((q2 >>> ((3 : Int32) &&& 0x3f).toInt64) + (q3 >>> ((3 : Int32) &&& 0x3f).toInt64))) + (((p5 &&& (3 : Int32)) - (1 : Int32)).toInt64))), .second, .unset, .unset, .unset, .unset]) rfl ?_
        exact kt
    show Steps p.tables e below (s₁.setTop (mkF m 57 #[.val (.long q1), .second, .val (.long q2), .second, .val (.long q3), .second, .val (.long q4), .second, .val (.int p5), .val (.long (q1 >>> ((2 : Int32) &&& 0x3f).toInt64)), .second, .val (.long (q2 >>> ((3 : Int32) &&& 0x3f).toInt64)), .second, .val (.long (q3 >>> ((3 : Int32) &&& 0x3f).toInt64)), .second, .val (.long ((q2 >>> ((3 : Int32) &&& 0x3f).toInt64) + (q3 >>> ((3 : Int32) &&& 0x3f).toInt64))), .second, .val (.int (p5 &&& (3 : Int32))), .val (.long by_), .second, .unset, .unset, .unset, .unset] [])) _
    refine st1 _ ?_
    show Steps p.tables e below (T1.setTop (mkF m 60 #[.val (.long q1), .second, .val (.long q2), .second, .val (.long q3), .second, .val (.long q4), .second, .val (.int p5), .val (.long (q1 >>> ((2 : Int32) &&& 0x3f).toInt64)), .second, .val (.long (q2 >>> ((3 : Int32) &&& 0x3f).toInt64)), .second, .val (.long (q3 >>> ((3 : Int32) &&& 0x3f).toInt64)), .second, .val (.long ((q2 >>> ((3 : Int32) &&& 0x3f).toInt64) + (q3 >>> ((3 : Int32) &&& 0x3f).toInt64))), .second, .val (.int (p5 &&& (3 : Int32))), .val (.long by_), .second, .unset, .unset, .unset, .unset] [(.ref a)])) _
    refine XS.dup X1.here hx rfl (hb hby at_60) rfl rfl ?_
    show Steps p.tables e below (T1.setTop (mkF m 61 #[.val (.long q1), .second, .val (.long q2), .second, .val (.long q3), .second, .val (.long q4), .second, .val (.int p5), .val (.long (q1 >>> ((2 : Int32) &&& 0x3f).toInt64)), .second, .val (.long (q2 >>> ((3 : Int32) &&& 0x3f).toInt64)), .second, .val (.long (q3 >>> ((3 : Int32) &&& 0x3f).toInt64)), .second, .val (.long ((q2 >>> ((3 : Int32) &&& 0x3f).toInt64) + (q3 >>> ((3 : Int32) &&& 0x3f).toInt64))), .second, .val (.int (p5 &&& (3 : Int32))), .val (.long by_), .second, .unset, .unset, .unset, .unset] [(.ref a), (.ref a)])) _
    refine XS.lload X1.here hx rfl (hb hby at_61) rfl ?_
    show Steps p.tables e below (T1.setTop (mkF m 63 #[.val (.long q1), .second, .val (.long q2), .second, .val (.long q3), .second, .val (.long q4), .second, .val (.int p5), .val (.long (q1 >>> ((2 : Int32) &&& 0x3f).toInt64)), .second, .val (.long (q2 >>> ((3 : Int32) &&& 0x3f).toInt64)), .second, .val (.long (q3 >>> ((3 : Int32) &&& 0x3f).toInt64)), .second, .val (.long ((q2 >>> ((3 : Int32) &&& 0x3f).toInt64) + (q3 >>> ((3 : Int32) &&& 0x3f).toInt64))), .second, .val (.int (p5 &&& (3 : Int32))), .val (.long by_), .second, .unset, .unset, .unset, .unset] [(.long (q1 >>> ((2 : Int32) &&& 0x3f).toInt64)), (.ref a), (.ref a)])) _
    refine st2.trans ?_
    show Steps p.tables e below (T2.setTop (mkF m 66 #[.val (.long q1), .second, .val (.long q2), .second, .val (.long q3), .second, .val (.long q4), .second, .val (.int p5), .val (.long (q1 >>> ((2 : Int32) &&& 0x3f).toInt64)), .second, .val (.long (q2 >>> ((3 : Int32) &&& 0x3f).toInt64)), .second, .val (.long (q3 >>> ((3 : Int32) &&& 0x3f).toInt64)), .second, .val (.long ((q2 >>> ((3 : Int32) &&& 0x3f).toInt64) + (q3 >>> ((3 : Int32) &&& 0x3f).toInt64))), .second, .val (.int (p5 &&& (3 : Int32))), .val (.long by_), .second, .unset, .unset, .unset, .unset] [(.ref a)])) _
    refine XS.astore X2.here hx rfl (hb hby at_66) rfl rfl (l' := #[.val (.long q1), .second, .val (.long q2), .second, .val (.long q3), .second, .val (.long q4), .second, .val (.int p5), .val (.long (q1 >>> ((2 : Int32) &&& 0x3f).toInt64)), .second, .val (.long (q2 >>> ((3 : Int32) &&& 0x3f).toInt64)), .second, .val (.long (q3 >>> ((3 : Int32) &&& 0x3f).toInt64)), .second, .val (.long ((q2 >>> ((3 : Int32) &&& 0x3f).toInt64) + (q3 >>> ((3 : Int32) &&& 0x3f).toInt64))), .second, .val (.int (p5 &&& (3 : Int32))), .val (.long by_), .second, .val (.ref a), .unset, .unset, .unset]) rfl ?_
    show Steps p.tables e below (T2.setTop (mkF m 68 #[.val (.long q1), .second, .val (.long q2), .second, .val (.long q3), .second, .val (.long q4), .second, .val (.int p5), .val (.long (q1 >>> ((2 : Int32) &&& 0x3f).toInt64)), .second, .val (.long (q2 >>> ((3 : Int32) &&& 0x3f).toInt64)), .second, .val (.long (q3 >>> ((3 : Int32) &&& 0x3f).toInt64)), .second, .val (.long ((q2 >>> ((3 : Int32) &&& 0x3f).toInt64) + (q3 >>> ((3 : Int32) &&& 0x3f).toInt64))), .second, .val (.int (p5 &&& (3 : Int32))), .val (.long by_), .second, .val (.ref a), .unset, .unset, .unset] [])) _
    refine XS.aload X2.here hx rfl (hb hby at_68) rfl rfl ?_
    show Steps p.tables e below (T2.setTop (mkF m 70 #[.val (.long q1), .second, .val (.long q2), .second, .val (.long q3), .second, .val (.long q4), .second, .val (.int p5), .val (.long (q1 >>> ((2 : Int32) &&& 0x3f).toInt64)), .second, .val (.long (q2 >>> ((3 : Int32) &&& 0x3f).toInt64)), .second, .val (.long (q3 >>> ((3 : Int32) &&& 0x3f).toInt64)), .second, .val (.long ((q2 >>> ((3 : Int32) &&& 0x3f).toInt64) + (q3 >>> ((3 : Int32) &&& 0x3f).toInt64))), .second, .val (.int (p5 &&& (3 : Int32))), .val (.long by_), .second, .val (.ref a), .unset, .unset, .unset] [(.ref a)])) _
    refine XS.lload X2.here hx rfl (hb hby at_70) rfl ?_
    show Steps p.tables e below (T2.setTop (mkF m 72 #[.val (.long q1), .second, .val (.long q2), .second, .val (.long q3), .second, .val (.long q4), .second, .val (.int p5), .val (.long (q1 >>> ((2 : Int32) &&& 0x3f).toInt64)), .second, .val (.long (q2 >>> ((3 : Int32) &&& 0x3f).toInt64)), .second, .val (.long (q3 >>> ((3 : Int32) &&& 0x3f).toInt64)), .second, .val (.long ((q2 >>> ((3 : Int32) &&& 0x3f).toInt64) + (q3 >>> ((3 : Int32) &&& 0x3f).toInt64))), .second, .val (.int (p5 &&& (3 : Int32))), .val (.long by_), .second, .val (.ref a), .unset, .unset, .unset] [(.long (q2 >>> ((3 : Int32) &&& 0x3f).toInt64)), (.ref a)])) _
    refine st3.trans ?_
    show Steps p.tables e below (T3.setTop (mkF m 75 #[.val (.long q1), .second, .val (.long q2), .second, .val (.long q3), .second, .val (.long q4), .second, .val (.int p5), .val (.long (q1 >>> ((2 : Int32) &&& 0x3f).toInt64)), .second, .val (.long (q2 >>> ((3 : Int32) &&& 0x3f).toInt64)), .second, .val (.long (q3 >>> ((3 : Int32) &&& 0x3f).toInt64)), .second, .val (.long ((q2 >>> ((3 : Int32) &&& 0x3f).toInt64) + (q3 >>> ((3 : Int32) &&& 0x3f).toInt64))), .second, .val (.int (p5 &&& (3 : Int32))), .val (.long by_), .second, .val (.ref a), .unset, .unset, .unset] [])) _
    refine XS.aload X3.here hx rfl (hb hby at_75) rfl rfl ?_
    show Steps p.tables e below (T3.setTop (mkF m 77 #[.val (.long q1), .second, .val (.long q2), .second, .val (.long q3), .second, .val (.long q4), .second, .val (.int p5), .val (.long (q1 >>> ((2 : Int32) &&& 0x3f).toInt64)), .second, .val (.long (q2 >>> ((3 : Int32) &&& 0x3f).toInt64)), .second, .val (.long (q3 >>> ((3 : Int32) &&& 0x3f).toInt64)), .second, .val (.long ((q2 >>> ((3 : Int32) &&& 0x3f).toInt64) + (q3 >>> ((3 : Int32) &&& 0x3f).toInt64))), .second, .val (.int (p5 &&& (3 : Int32))), .val (.long by_), .second, .val (.ref a), .unset, .unset, .unset] [(.ref a)])) _
    refine XS.lload X3.here hx rfl (hb hby at_77) rfl ?_
    show Steps p.tables e below (T3.setTop (mkF m 79 #[.val (.long q1), .second, .val (.long q2), .second, .val (.long q3), .second, .val (.long q4), .second, .val (.int p5), .val (.long (q1 >>> ((2 : Int32) &&& 0x3f).toInt64)), .second, .val (.long (q2 >>> ((3 : Int32) &&& 0x3f).toInt64)), .second, .val (.long (q3 >>> ((3 : Int32) &&& 0x3f).toInt64)), .second, .val (.long ((q2 >>> ((3 : Int32) &&& 0x3f).toInt64) + (q3 >>> ((3 : Int32) &&& 0x3f).toInt64))), .second, .val (.int (p5 &&& (3 : Int32))), .val (.long by_), .second, .val (.ref a), .unset, .unset, .unset] [(.long (q3 >>> ((3 : Int32) &&& 0x3f).toInt64)), (.ref a)])) _
    refine st4.trans ?_
    show Steps p.tables e below (T4.setTop (mkF m 82 #[.val (.long q1), .second, .val (.long q2), .second, .val (.long q3), .second, .val (.long q4), .second, .val (.int p5), .val (.long (q1 >>> ((2 : Int32) &&& 0x3f).toInt64)), .second, .val (.long (q2 >>> ((3 : Int32) &&& 0x3f).toInt64)), .second, .val (.long (q3 >>> ((3 : Int32) &&& 0x3f).toInt64)), .second, .val (.long ((q2 >>> ((3 : Int32) &&& 0x3f).toInt64) + (q3 >>> ((3 : Int32) &&& 0x3f).toInt64))), .second, .val (.int (p5 &&& (3 : Int32))), .val (.long by_), .second, .val (.ref a), .unset, .unset, .unset] [])) _
    refine XS.lload X4.here hx rfl (hb hby at_82) rfl ?_
    show Steps p.tables e below (T4.setTop (mkF m 84 #[.val (.long q1), .second, .val (.long q2), .second, .val (.long q3), .second, .val (.long q4), .second, .val (.int p5), .val (.long (q1 >>> ((2 : Int32) &&& 0x3f).toInt64)), .second, .val (.long (q2 >>> ((3 : Int32) &&& 0x3f).toInt64)), .second, .val (.long (q3 >>> ((3 : Int32) &&& 0x3f).toInt64)), .second, .val (.long ((q2 >>> ((3 : Int32) &&& 0x3f).toInt64) + (q3 >>> ((3 : Int32) &&& 0x3f).toInt64))), .second, .val (.int (p5 &&& (3 : Int32))), .val (.long by_), .second, .val (.ref a), .unset, .unset, .unset] [(.long (q1 >>> ((2 : Int32) &&& 0x3f).toInt64))])) _
    refine XS.lload X4.here hx rfl (hb hby at_84) rfl ?_
    show Steps p.tables e below (T4.setTop (mkF m 86 #[.val (.long q1), .second, .val (.long q2), .second, .val (.long q3), .second, .val (.long q4), .second, .val (.int p5), .val (.long (q1 >>> ((2 : Int32) &&& 0x3f).toInt64)), .second, .val (.long (q2 >>> ((3 : Int32) &&& 0x3f).toInt64)), .second, .val (.long (q3 >>> ((3 : Int32) &&& 0x3f).toInt64)), .second, .val (.long ((q2 >>> ((3 : Int32) &&& 0x3f).toInt64) + (q3 >>> ((3 : Int32) &&& 0x3f).toInt64))), .second, .val (.int (p5 &&& (3 : Int32))), .val (.long by_), .second, .val (.ref a), .unset, .unset, .unset] [(.long ((q2 >>> ((3 : Int32) &&& 0x3f).toInt64) + (q3 >>> ((3 : Int32) &&& 0x3f).toInt64))), (.long (q1 >>> ((2 : Int32) &&& 0x3f).toInt64))])) _
    refine XS.lsub X4.here hx rfl (hb hby at_86) rfl ?_
    show Steps p.tables e below (T4.setTop (mkF m 87 #[.val (.long q1), .second, .val (.long q2), .second, .val (.long q3), .second, .val (.long q4), .second, .val (.int p5), .val (.long (q1 >>> ((2 : Int32) &&& 0x3f).toInt64)), .second, .val (.long (q2 >>> ((3 : Int32) &&& 0x3f).toInt64)), .second, .val (.long (q3 >>> ((3 : Int32) &&& 0x3f).toInt64)), .second, .val (.long ((q2 >>> ((3 : Int32) &&& 0x3f).toInt64) + (q3 >>> ((3 : Int32) &&& 0x3f).toInt64))), .second, .val (.int (p5 &&& (3 : Int32))), .val (.long by_), .second, .val (.ref a), .unset, .unset, .unset] [(.long ((q1 >>> ((2 : Int32) &&& 0x3f).toInt64) - ((q2 >>> ((3 : Int32) &&& 0x3f).toInt64) + (q3 >>> ((3 : Int32) &&& 0x3f).toInt64))))])) _
    refine XS.lload X4.here hx rfl (hb hby at_87) rfl ?_
    show Steps p.tables e below (T4.setTop (mkF m 89 #[.val (.long q1), .second, .val (.long q2), .second, .val (.long q3), .second, .val (.long q4), .second, .val (.int p5), .val (.long (q1 >>> ((2 : Int32) &&& 0x3f).toInt64)), .second, .val (.long (q2 >>> ((3 : Int32) &&& 0x3f).toInt64)), .second, .val (.long (q3 >>> ((3 : Int32) &&& 0x3f).toInt64)), .second, .val (.long ((q2 >>> ((3 : Int32) &&& 0x3f).toInt64) + (q3 >>> ((3 : Int32) &&& 0x3f).toInt64))), .second, .val (.int (p5 &&& (3 : Int32))), .val (.long by_), .second, .val (.ref a), .unset, .unset, .unset] [(.long by_), (.long ((q1 >>> ((2 : Int32) &&& 0x3f).toInt64) - ((q2 >>> ((3 : Int32) &&& 0x3f).toInt64) + (q3 >>> ((3 : Int32) &&& 0x3f).toInt64))))])) _
    refine XS.lsub X4.here hx rfl (hb hby at_89) rfl ?_
    show Steps p.tables e below (T4.setTop (mkF m 90 #[.val (.long q1), .second, .val (.long q2), .second, .val (.long q3), .second, .val (.long q4), .second, .val (.int p5), .val (.long (q1 >>> ((2 : Int32) &&& 0x3f).toInt64)), .second, .val (.long (q2 >>> ((3 : Int32) &&& 0x3f).toInt64)), .second, .val (.long (q3 >>> ((3 : Int32) &&& 0x3f).toInt64)), .second, .val (.long ((q2 >>> ((3 : Int32) &&& 0x3f).toInt64) + (q3 >>> ((3 : Int32) &&& 0x3f).toInt64))), .second, .val (.int (p5 &&& (3 : Int32))), .val (.long by_), .second, .val (.ref a), .unset, .unset, .unset] [(.long (((q1 >>> ((2 : Int32) &&& 0x3f).toInt64) - ((q2 >>> ((3 : Int32) &&& 0x3f).toInt64) + (q3 >>> ((3 : Int32) &&& 0x3f).toInt64))) - by_))])) _
    refine XS.lconst X4.here hx rfl (hb hby at_90) ?_
    show Steps p.tables e below (T4.setTop (mkF m 91 #[.val (.long q1), .second, .val (.long q2), .second, .val (.long q3), .second, .val (.long q4), .second, .val (.int p5), .val (.long (q1 >>> ((2 : Int32) &&& 0x3f).toInt64)), .second, .val (.long (q2 >>> ((3 : Int32) &&& 0x3f).toInt64)), .second, .val (.long (q3 >>> ((3 : Int32) &&& 0x3f).toInt64)), .second, .val (.long ((q2 >>> ((3 : Int32) &&& 0x3f).toInt64) + (q3 >>> ((3 : Int32) &&& 0x3f).toInt64))), .second, .val (.int (p5 &&& (3 : Int32))), .val (.long by_), .second, .val (.ref a), .unset, .unset, .unset] [(.long (0 : Int64)), (.long (((q1 >>> ((2 : Int32) &&& 0x3f).toInt64) - ((q2 >>> ((3 : Int32) &&& 0x3f).toInt64) + (q3 >>> ((3 : Int32) &&& 0x3f).toInt64))) - by_))])) _
    refine XS.lcmp X4.here hx rfl (hb hby at_91) rfl ?_
    show Steps p.tables e below (T4.setTop (mkF m 92 #[.val (.long q1), .second, .val (.long q2), .second, .val (.long q3), .second, .val (.long q4), .second, .val (.int p5), .val (.long (q1 >>> ((2 : Int32) &&& 0x3f).toInt64)), .second, .val (.long (q2 >>> ((3 : Int32) &&& 0x3f).toInt64)), .second, .val (.long (q3 >>> ((3 : Int32) &&& 0x3f).toInt64)), .second, .val (.long ((q2 >>> ((3 : Int32) &&& 0x3f).toInt64) + (q3 >>> ((3 : Int32) &&& 0x3f).toInt64))), .second, .val (.int (p5 &&& (3 : Int32))), .val (.long by_), .second, .val (.ref a), .unset, .unset, .unset] [(.int (lcmpW (((q1 >>> ((2 : Int32) &&& 0x3f).toInt64) - ((q2 >>> ((3 : Int32) &&& 0x3f).toInt64) + (q3 >>> ((3 : Int32) &&& 0x3f).toInt64))) - by_) (0 : Int64)))])) _
    refine (show ∀ tt, Steps p.tables e below (T4.setTop (mkF m 100 #[.val (.long q1), .second, .val (.long q2), .second, .val (.long q3), .second, .val (.long q4), .second, .val (.int p5), .val (.long (q1 >>> ((2 : Int32) &&& 0x3f).toInt64)), .second, .val (.long (q2 >>> ((3 : Int32) &&& 0x3f).toInt64)), .second, .val (.long (q3 >>> ((3 : Int32) &&& 0x3f).toInt64)), .second, .val (.long ((q2 >>> ((3 : Int32) &&& 0x3f).toInt64) + (q3 >>> ((3 : Int32) &&& 0x3f).toInt64))), .second, .val (.int (p5 &&& (3 : Int32))), .val (.long by_), .second, .val (.ref a), .unset, .unset, .unset] [(.int ex)])) tt → Steps p.tables e below (T4.setTop (mkF m 92 #[.val (.long q1), .second, .val (.long q2), .second, .val (.long q3), .second, .val (.long q4), .second, .val (.int p5), .val (.long (q1 >>> ((2 : Int32) &&& 0x3f).toInt64)), .second, .val (.long (q2 >>> ((3 : Int32) &&& 0x3f).toInt64)), .second, .val (.long (q3 >>> ((3 : Int32) &&& 0x3f).toInt64)), .second, .val (.long ((q2 >>> ((3 : Int32) &&& 0x3f).toInt64) + (q3 >>> ((3 : Int32) &&& 0x3f).toInt64))), .second, .val (.int (p5 &&& (3 : Int32))), .val (.long by_), .second, .val (.ref a), .unset, .unset, .unset] [(.int (lcmpW (((q1 >>> ((2 : Int32) &&& 0x3f).toInt64) - ((q2 >>> ((3 : Int32) &&& 0x3f).toInt64) + (q3 >>> ((3 : Int32) &&& 0x3f).toInt64))) - by_) (0 : Int64)))])) tt from ?_) _ ?_
    · intro tt kt
      by_cases x0 : (((q1 >>> ((2 : Int32) &&& 0x3f).toInt64) - ((q2 >>> ((3 : Int32) &&& 0x3f).toInt64) + (q3 >>> ((3 : Int32) &&& 0x3f).toInt64))) - by_) < (0 : Int64)
      · rw [h_ex, if_pos x0] at kt
        show Steps p.tables e below (T4.setTop (mkF m 92 #[.val (.long q1), .second, .val (.long q2), .second, .val (.long q3), .second, .val (.long q4), .second, .val (.int p5), .val (.long (q1 >>> ((2 : Int32) &&& 0x3f).toInt64)), .second, .val (.long (q2 >>> ((3 : Int32) &&& 0x3f).toInt64)), .second, .val (.long (q3 >>> ((3 : Int32) &&& 0x3f).toInt64)), .second, .val (.long ((q2 >>> ((3 : Int32) &&& 0x3f).toInt64) + (q3 >>> ((3 : Int32) &&& 0x3f).toInt64))), .second, .val (.int (p5 &&& (3 : Int32))), .val (.long by_), .second, .val (.ref a), .unset, .unset, .unset] [(.int (lcmpW (((q1 >>> ((2 : Int32) &&& 0x3f).toInt64) - ((q2 >>> ((3 : Int32) &&& 0x3f).toInt64) + (q3 >>> ((3 : Int32) &&& 0x3f).toInt64))) - by_) (0 : Int64)))])) _
        refine XS.ifYes X4.here hx rfl (pc0 := 92) (pc' := 99) rfl (hb hby at_92) rfl (Jvm.Free.XT.ll_lt_t x0) (by decide) (by decide) ?_
        show Steps p.tables e below (T4.setTop (mkF m 99 #[.val (.long q1), .second, .val (.long q2), .second, .val (.long q3), .second, .val (.long q4), .second, .val (.int p5), .val (.long (q1 >>> ((2 : Int32) &&& 0x3f).toInt64)), .second, .val (.long (q2 >>> ((3 : Int32) &&& 0x3f).toInt64)), .second, .val (.long (q3 >>> ((3 : Int32) &&& 0x3f).toInt64)), .second, .val (.long ((q2 >>> ((3 : Int32) &&& 0x3f).toInt64) + (q3 >>> ((3 : Int32) &&& 0x3f).toInt64))), .second, .val (.int (p5 &&& (3 : Int32))), .val (.long by_), .second, .val (.ref a), .unset, .unset, .unset] [])) _
        refine XS.iconst X4.here hx rfl (hb hby at_99) ?_
        exact kt
      · rw [h_ex, if_neg x0] at kt
        show Steps p.tables e below (T4.setTop (mkF m 92 #[.val (.long q1), .second, .val (.long q2), .second, .val (.long q3), .second, .val (.long q4), .second, .val (.int p5), .val (.long (q1 >>> ((2 : Int32) &&& 0x3f).toInt64)), .second, .val (.long (q2 >>> ((3 : Int32) &&& 0x3f).toInt64)), .second, .val (.long (q3 >>> ((3 : Int32) &&& 0x3f).toInt64)), .second, .val (.long ((q2 >>> ((3 : Int32) &&& 0x3f).toInt64) + (q3 >>> ((3 : Int32) &&& 0x3f).toInt64))), .second, .val (.int (p5 &&& (3 : Int32))), .val (.long by_), .second, .val (.ref a), .unset, .unset, .unset] [(.int (lcmpW (((q1 >>> ((2 : Int32) &&& 0x3f).toInt64) - ((q2 >>> ((3 : Int32) &&& 0x3f).toInt64) + (q3 >>> ((3 : Int32) &&& 0x3f).toInt64))) - by_) (0 : Int64)))])) _
        refine XS.ifNo X4.here hx rfl (hb hby at_92) rfl (Jvm.Free.XT.ll_lt_f x0) ?_
        show Steps p.tables e below (T4.setTop (mkF m 95 #[.val (.long q1), .second, .val (.long q2), .second, .val (.long q3), .second, .val (.long q4), .second, .val (.int p5), .val (.long (q1 >>> ((2 : Int32) &&& 0x3f).toInt64)), .second, .val (.long (q2 >>> ((3 : Int32) &&& 0x3f).toInt64)), .second, .val (.long (q3 >>> ((3 : Int32) &&& 0x3f).toInt64)), .second, .val (.long ((q2 >>> ((3 : Int32) &&& 0x3f).toInt64) + (q3 >>> ((3 : Int32) &&& 0x3f).toInt64))), .second, .val (.int (p5 &&& (3 : Int32))), .val (.long by_), .second, .val (.ref a), .unset, .unset, .unset] [])) _
        refine XS.iconst X4.here hx rfl (hb hby at_95) ?_
        show Steps p.tables e below (T4.setTop (mkF m 96 #[.val (.long q1), .second, .val (.long q2), .second, .val (.long q3), .second, .val (.long q4), .second, .val (.int p5), .val (.long (q1 >>> ((2 : Int32) &&& 0x3f).toInt64)), .second, .val (.long (q2 >>> ((3 : Int32) &&& 0x3f).toInt64)), .second, .val (.long (q3 >>> ((3 : Int32) &&& 0x3f).toInt64)), .second, .val (.long ((q2 >>> ((3 : Int32) &&& 0x3f).toInt64) + (q3 >>> ((3 : Int32) &&& 0x3f).toInt64))), .second, .val (.int (p5 &&& (3 : Int32))), .val (.long by_), .second, .val (.ref a), .unset, .unset, .unset] [(.int (1 : Int32))])) _
        refine XS.goto X4.here hx rfl (pc0 := 96) (pc' := 100) rfl (hb hby at_96) (by decide) (by decide) ?_
        exact kt
    show Steps p.tables e below (T4.setTop (mkF m 100 #[.val (.long q1), .second, .val (.long q2), .second, .val (.long q3), .second, .val (.long q4), .second, .val (.int p5), .val (.long (q1 >>> ((2 : Int32) &&& 0x3f).toInt64)), .second, .val (.long (q2 >>> ((3 : Int32) &&& 0x3f).toInt64)), .second, .val (.long (q3 >>> ((3 : Int32) &&& 0x3f).toInt64)), .second, .val (.long ((q2 >>> ((3 : Int32) &&& 0x3f).toInt64) + (q3 >>> ((3 : Int32) &&& 0x3f).toInt64))), .second, .val (.int (p5 &&& (3 : Int32))), .val (.long by_), .second, .val (.ref a), .unset, .unset, .unset] [(.int ex)])) _
    refine XS.istore X4.here hx rfl (hb hby at_100) rfl (l' := #[.val (.long q1), .second, .val (.long q2), .second, .val (.long q3), .second, .val (.long q4), .second, .val (.int p5), .val (.long (q1 >>> ((2 : Int32) &&& 0x3f).toInt64)), .second, .val (.long (q2 >>> ((3 : Int32) &&& 0x3f).toInt64)), .second, .val (.long (q3 >>> ((3 : Int32) &&& 0x3f).toInt64)), .second, .val (.long ((q2 >>> ((3 : Int32) &&& 0x3f).toInt64) + (q3 >>> ((3 : Int32) &&& 0x3f).toInt64))), .second, .val (.int (p5 &&& (3 : Int32))), .val (.long by_), .second, .val (.ref a), .val (.int ex), .unset, .unset]) rfl ?_
    show Steps p.tables e below (T4.setTop (mkF m 102 #[.val (.long q1), .second, .val (.long q2), .second, .val (.long q3), .second, .val (.long q4), .second, .val (.int p5), .val (.long (q1 >>> ((2 : Int32) &&& 0x3f).toInt64)), .second, .val (.long (q2 >>> ((3 : Int32) &&& 0x3f).toInt64)), .second, .val (.long (q3 >>> ((3 : Int32) &&& 0x3f).toInt64)), .second, .val (.long ((q2 >>> ((3 : Int32) &&& 0x3f).toInt64) + (q3 >>> ((3 : Int32) &&& 0x3f).toInt64))), .second, .val (.int (p5 &&& (3 : Int32))), .val (.long by_), .second, .val (.ref a), .val (.int ex), .unset, .unset] [])) _
    refine XS.aload X4.here hx rfl (hb hby at_102) rfl rfl ?_
    show Steps p.tables e below (T4.setTop (mkF m 104 #[.val (.long q1), .second, .val (.long q2), .second, .val (.long q3), .second, .val (.long q4), .second, .val (.int p5), .val (.long (q1 >>> ((2 : Int32) &&& 0x3f).toInt64)), .second, .val (.long (q2 >>> ((3 : Int32) &&& 0x3f).toInt64)), .second, .val (.long (q3 >>> ((3 : Int32) &&& 0x3f).toInt64)), .second, .val (.long ((q2 >>> ((3 : Int32) &&& 0x3f).toInt64) + (q3 >>> ((3 : Int32) &&& 0x3f).toInt64))), .second, .val (.int (p5 &&& (3 : Int32))), .val (.long by_), .second, .val (.ref a), .val (.int ex), .unset, .unset] [(.ref a)])) _
    refine XS.lload X4.here hx rfl (hb hby at_104) rfl ?_
    show Steps p.tables e below (T4.setTop (mkF m 106 #[.val (.long q1), .second, .val (.long q2), .second, .val (.long q3), .second, .val (.long q4), .second, .val (.int p5), .val (.long (q1 >>> ((2 : Int32) &&& 0x3f).toInt64)), .second, .val (.long (q2 >>> ((3 : Int32) &&& 0x3f).toInt64)), .second, .val (.long (q3 >>> ((3 : Int32) &&& 0x3f).toInt64)), .second, .val (.long ((q2 >>> ((3 : Int32) &&& 0x3f).toInt64) + (q3 >>> ((3 : Int32) &&& 0x3f).toInt64))), .second, .val (.int (p5 &&& (3 : Int32))), .val (.long by_), .second, .val (.ref a), .val (.int ex), .unset, .unset] [(.long by_), (.ref a)])) _
    refine st5.trans ?_
    show Steps p.tables e below (T5.setTop (mkF m 109 #[.val (.long q1), .second, .val (.long q2), .second, .val (.long q3), .second, .val (.long q4), .second, .val (.int p5), .val (.long (q1 >>> ((2 : Int32) &&& 0x3f).toInt64)), .second, .val (.long (q2 >>> ((3 : Int32) &&& 0x3f).toInt64)), .second, .val (.long (q3 >>> ((3 : Int32) &&& 0x3f).toInt64)), .second, .val (.long ((q2 >>> ((3 : Int32) &&& 0x3f).toInt64) + (q3 >>> ((3 : Int32) &&& 0x3f).toInt64))), .second, .val (.int (p5 &&& (3 : Int32))), .val (.long by_), .second, .val (.ref a), .val (.int ex), .unset, .unset] [(.int (own_fits (((0 : Int64) + (q2 >>> ((3 : Int32) &&& 0x3f).toInt64)) + (q3 >>> ((3 : Int32) &&& 0x3f).toInt64)) (q1 >>> ((2 : Int32) &&& 0x3f).toInt64) by_))])) _
    refine XS.istore X5.here hx rfl (hb hby at_109) rfl (l' := #[.val (.long q1), .second, .val (.long q2), .second, .val (.long q3), .second, .val (.long q4), .second, .val (.int p5), .val (.long (q1 >>> ((2 : Int32) &&& 0x3f).toInt64)), .second, .val (.long (q2 >>> ((3 : Int32) &&& 0x3f).toInt64)), .second, .val (.long (q3 >>> ((3 : Int32) &&& 0x3f).toInt64)), .second, .val (.long ((q2 >>> ((3 : Int32) &&& 0x3f).toInt64) + (q3 >>> ((3 : Int32) &&& 0x3f).toInt64))), .second, .val (.int (p5 &&& (3 : Int32))), .val (.long by_), .second, .val (.ref a), .val (.int ex), .val (.int (own_fits (((0 : Int64) + (q2 >>> ((3 : Int32) &&& 0x3f).toInt64)) + (q3 >>> ((3 : Int32) &&& 0x3f).toInt64)) (q1 >>> ((2 : Int32) &&& 0x3f).toInt64) by_)), .unset]) rfl ?_
    show Steps p.tables e below (T5.setTop (mkF m 111 #[.val (.long q1), .second, .val (.long q2), .second, .val (.long q3), .second, .val (.long q4), .second, .val (.int p5), .val (.long (q1 >>> ((2 : Int32) &&& 0x3f).toInt64)), .second, .val (.long (q2 >>> ((3 : Int32) &&& 0x3f).toInt64)), .second, .val (.long (q3 >>> ((3 : Int32) &&& 0x3f).toInt64)), .second, .val (.long ((q2 >>> ((3 : Int32) &&& 0x3f).toInt64) + (q3 >>> ((3 : Int32) &&& 0x3f).toInt64))), .second, .val (.int (p5 &&& (3 : Int32))), .val (.long by_), .second, .val (.ref a), .val (.int ex), .val (.int (own_fits (((0 : Int64) + (q2 >>> ((3 : Int32) &&& 0x3f).toInt64)) + (q3 >>> ((3 : Int32) &&& 0x3f).toInt64)) (q1 >>> ((2 : Int32) &&& 0x3f).toInt64) by_)), .unset] [])) _
    refine XS.aload X5.here hx rfl (hb hby at_111) rfl rfl ?_
    show Steps p.tables e below (T5.setTop (mkF m 113 #[.val (.long q1), .second, .val (.long q2), .second, .val (.long q3), .second, .val (.long q4), .second, .val (.int p5), .val (.long (q1 >>> ((2 : Int32) &&& 0x3f).toInt64)), .second, .val (.long (q2 >>> ((3 : Int32) &&& 0x3f).toInt64)), .second, .val (.long (q3 >>> ((3 : Int32) &&& 0x3f).toInt64)), .second, .val (.long ((q2 >>> ((3 : Int32) &&& 0x3f).toInt64) + (q3 >>> ((3 : Int32) &&& 0x3f).toInt64))), .second, .val (.int (p5 &&& (3 : Int32))), .val (.long by_), .second, .val (.ref a), .val (.int ex), .val (.int (own_fits (((0 : Int64) + (q2 >>> ((3 : Int32) &&& 0x3f).toInt64)) + (q3 >>> ((3 : Int32) &&& 0x3f).toInt64)) (q1 >>> ((2 : Int32) &&& 0x3f).toInt64) by_)), .unset] [(.ref a)])) _
    refine XS.lload X5.here hx rfl (hb hby at_113) rfl ?_
    show Steps p.tables e below (T5.setTop (mkF m 115 #[.val (.long q1), .second, .val (.long q2), .second, .val (.long q3), .second, .val (.long q4), .second, .val (.int p5), .val (.long (q1 >>> ((2 : Int32) &&& 0x3f).toInt64)), .second, .val (.long (q2 >>> ((3 : Int32) &&& 0x3f).toInt64)), .second, .val (.long (q3 >>> ((3 : Int32) &&& 0x3f).toInt64)), .second, .val (.long ((q2 >>> ((3 : Int32) &&& 0x3f).toInt64) + (q3 >>> ((3 : Int32) &&& 0x3f).toInt64))), .second, .val (.int (p5 &&& (3 : Int32))), .val (.long by_), .second, .val (.ref a), .val (.int ex), .val (.int (own_fits (((0 : Int64) + (q2 >>> ((3 : Int32) &&& 0x3f).toInt64)) + (q3 >>> ((3 : Int32) &&& 0x3f).toInt64)) (q1 >>> ((2 : Int32) &&& 0x3f).toInt64) by_)), .unset] [(.long by_), (.ref a)])) _
    refine st6.trans ?_
    show Steps p.tables e below (T6.setTop (mkF m 118 #[.val (.long q1), .second, .val (.long q2), .second, .val (.long q3), .second, .val (.long q4), .second, .val (.int p5), .val (.long (q1 >>> ((2 : Int32) &&& 0x3f).toInt64)), .second, .val (.long (q2 >>> ((3 : Int32) &&& 0x3f).toInt64)), .second, .val (.long (q3 >>> ((3 : Int32) &&& 0x3f).toInt64)), .second, .val (.long ((q2 >>> ((3 : Int32) &&& 0x3f).toInt64) + (q3 >>> ((3 : Int32) &&& 0x3f).toInt64))), .second, .val (.int (p5 &&& (3 : Int32))), .val (.long by_), .second, .val (.ref a), .val (.int ex), .val (.int (own_fits (((0 : Int64) + (q2 >>> ((3 : Int32) &&& 0x3f).toInt64)) + (q3 >>> ((3 : Int32) &&& 0x3f).toInt64)) (q1 >>> ((2 : Int32) &&& 0x3f).toInt64) by_)), .unset] [(.int (own_fits (((0 : Int64) + (q2 >>> ((3 : Int32) &&& 0x3f).toInt64)) + (q3 >>> ((3 : Int32) &&& 0x3f).toInt64)) (q1 >>> ((2 : Int32) &&& 0x3f).toInt64) by_))])) _
    refine XS.istore X6.here hx rfl (hb hby at_118) rfl (l' := #[.val (.long q1), .second, .val (.long q2), .second, .val (.long q3), .second, .val (.long q4), .second, .val (.int p5), .val (.long (q1 >>> ((2 : Int32) &&& 0x3f).toInt64)), .second, .val (.long (q2 >>> ((3 : Int32) &&& 0x3f).toInt64)), .second, .val (.long (q3 >>> ((3 : Int32) &&& 0x3f).toInt64)), .second, .val (.long ((q2 >>> ((3 : Int32) &&& 0x3f).toInt64) + (q3 >>> ((3 : Int32) &&& 0x3f).toInt64))), .second, .val (.int (p5 &&& (3 : Int32))), .val (.long by_), .second, .val (.ref a), .val (.int ex), .val (.int (own_fits (((0 : Int64) + (q2 >>> ((3 : Int32) &&& 0x3f).toInt64)) + (q3 >>> ((3 : Int32) &&& 0x3f).toInt64)) (q1 >>> ((2 : Int32) &&& 0x3f).toInt64) by_)), .val (.int (own_fits (((0 : Int64) + (q2 >>> ((3 : Int32) &&& 0x3f).toInt64)) + (q3 >>> ((3 : Int32) &&& 0x3f).toInt64)) (q1 >>> ((2 : Int32) &&& 0x3f).toInt64) by_))]) rfl ?_
    show Steps p.tables e below (T6.setTop (mkF m 120 #[.val (.long q1), .second, .val (.long q2), .second, .val (.long q3), .second, .val (.long q4), .second, .val (.int p5), .val (.long (q1 >>> ((2 : Int32) &&& 0x3f).toInt64)), .second, .val (.long (q2 >>> ((3 : Int32) &&& 0x3f).toInt64)), .second, .val (.long (q3 >>> ((3 : Int32) &&& 0x3f).toInt64)), .second, .val (.long ((q2 >>> ((3 : Int32) &&& 0x3f).toInt64) + (q3 >>> ((3 : Int32) &&& 0x3f).toInt64))), .second, .val (.int (p5 &&& (3 : Int32))), .val (.long by_), .second, .val (.ref a), .val (.int ex), .val (.int (own_fits (((0 : Int64) + (q2 >>> ((3 : Int32) &&& 0x3f).toInt64)) + (q3 >>> ((3 : Int32) &&& 0x3f).toInt64)) (q1 >>> ((2 : Int32) &&& 0x3f).toInt64) by_)), .val (.int (own_fits (((0 : Int64) + (q2 >>> ((3 : Int32) &&& 0x3f).toInt64)) + (q3 >>> ((3 : Int32) &&& 0x3f).toInt64)) (q1 >>> ((2 : Int32) &&& 0x3f).toInt64) by_))] [])) _
    refine XS.iload X6.here hx rfl (hb hby at_120) rfl ?_
    show Steps p.tables e below (T6.setTop (mkF m 122 #[.val (.long q1), .second, .val (.long q2), .second, .val (.long q3), .second, .val (.long q4), .second, .val (.int p5), .val (.long (q1 >>> ((2 : Int32) &&& 0x3f).toInt64)), .second, .val (.long (q2 >>> ((3 : Int32) &&& 0x3f).toInt64)), .second, .val (.long (q3 >>> ((3 : Int32) &&& 0x3f).toInt64)), .second, .val (.long ((q2 >>> ((3 : Int32) &&& 0x3f).toInt64) + (q3 >>> ((3 : Int32) &&& 0x3f).toInt64))), .second, .val (.int (p5 &&& (3 : Int32))), .val (.long by_), .second, .val (.ref a), .val (.int ex), .val (.int (own_fits (((0 : Int64) + (q2 >>> ((3 : Int32) &&& 0x3f).toInt64)) + (q3 >>> ((3 : Int32) &&& 0x3f).toInt64)) (q1 >>> ((2 : Int32) &&& 0x3f).toInt64) by_)), .val (.int (own_fits (((0 : Int64) + (q2 >>> ((3 : Int32) &&& 0x3f).toInt64)) + (q3 >>> ((3 : Int32) &&& 0x3f).toInt64)) (q1 >>> ((2 : Int32) &&& 0x3f).toInt64) by_))] [(.int (own_fits (((0 : Int64) + (q2 >>> ((3 : Int32) &&& 0x3f).toInt64)) + (q3 >>> ((3 : Int32) &&& 0x3f).toInt64)) (q1 >>> ((2 : Int32) &&& 0x3f).toInt64) by_))])) _
    refine XS.iload X6.here hx rfl (hb hby at_122) rfl ?_
    show Steps p.tables e below (T6.setTop (mkF m 124 #[.val (.long q1), .second, .val (.long q2), .second, .val (.long q3), .second, .val (.long q4), .second, .val (.int p5), .val (.long (q1 >>> ((2 : Int32) &&& 0x3f).toInt64)), .second, .val (.long (q2 >>> ((3 : Int32) &&& 0x3f).toInt64)), .second, .val (.long (q3 >>> ((3 : Int32) &&& 0x3f).toInt64)), .second, .val (.long ((q2 >>> ((3 : Int32) &&& 0x3f).toInt64) + (q3 >>> ((3 : Int32) &&& 0x3f).toInt64))), .second, .val (.int (p5 &&& (3 : Int32))), .val (.long by_), .second, .val (.ref a), .val (.int ex), .val (.int (own_fits (((0 : Int64) + (q2 >>> ((3 : Int32) &&& 0x3f).toInt64)) + (q3 >>> ((3 : Int32) &&& 0x3f).toInt64)) (q1 >>> ((2 : Int32) &&& 0x3f).toInt64) by_)), .val (.int (own_fits (((0 : Int64) + (q2 >>> ((3 : Int32) &&& 0x3f).toInt64)) + (q3 >>> ((3 : Int32) &&& 0x3f).toInt64)) (q1 >>> ((2 : Int32) &&& 0x3f).toInt64) by_))] [(.int ex), (.int (own_fits (((0 : Int64) + (q2 >>> ((3 : Int32) &&& 0x3f).toInt64)) + (q3 >>> ((3 : Int32) &&& 0x3f).toInt64)) (q1 >>> ((2 : Int32) &&& 0x3f).toInt64) by_))])) _
    refine XS.icmpNo X6.here hx rfl (hb hby at_124) rfl (teq hex).2 ?_
    show Steps p.tables e below (T6.setTop (mkF m 127 #[.val (.long q1), .second, .val (.long q2), .second, .val (.long q3), .second, .val (.long q4), .second, .val (.int p5), .val (.long (q1 >>> ((2 : Int32) &&& 0x3f).toInt64)), .second, .val (.long (q2 >>> ((3 : Int32) &&& 0x3f).toInt64)), .second, .val (.long (q3 >>> ((3 : Int32) &&& 0x3f).toInt64)), .second, .val (.long ((q2 >>> ((3 : Int32) &&& 0x3f).toInt64) + (q3 >>> ((3 : Int32) &&& 0x3f).toInt64))), .second, .val (.int (p5 &&& (3 : Int32))), .val (.long by_), .second, .val (.ref a), .val (.int ex), .val (.int (own_fits (((0 : Int64) + (q2 >>> ((3 : Int32) &&& 0x3f).toInt64)) + (q3 >>> ((3 : Int32) &&& 0x3f).toInt64)) (q1 >>> ((2 : Int32) &&& 0x3f).toInt64) by_)), .val (.int (own_fits (((0 : Int64) + (q2 >>> ((3 : Int32) &&& 0x3f).toInt64)) + (q3 >>> ((3 : Int32) &&& 0x3f).toInt64)) (q1 >>> ((2 : Int32) &&& 0x3f).toInt64) by_))] [])) _
    refine XS.iload X6.here hx rfl (hb hby at_127) rfl ?_
    show Steps p.tables e below (T6.setTop (mkF m 129 #[.val (.long q1), .second, .val (.long q2), .second, .val (.long q3), .second, .val (.long q4), .second, .val (.int p5), .val (.long (q1 >>> ((2 : Int32) &&& 0x3f).toInt64)), .second, .val (.long (q2 >>> ((3 : Int32) &&& 0x3f).toInt64)), .second, .val (.long (q3 >>> ((3 : Int32) &&& 0x3f).toInt64)), .second, .val (.long ((q2 >>> ((3 : Int32) &&& 0x3f).toInt64) + (q3 >>> ((3 : Int32) &&& 0x3f).toInt64))), .second, .val (.int (p5 &&& (3 : Int32))), .val (.long by_), .second, .val (.ref a), .val (.int ex), .val (.int (own_fits (((0 : Int64) + (q2 >>> ((3 : Int32) &&& 0x3f).toInt64)) + (q3 >>> ((3 : Int32) &&& 0x3f).toInt64)) (q1 >>> ((2 : Int32) &&& 0x3f).toInt64) by_)), .val (.int (own_fits (((0 : Int64) + (q2 >>> ((3 : Int32) &&& 0x3f).toInt64)) + (q3 >>> ((3 : Int32) &&& 0x3f).toInt64)) (q1 >>> ((2 : Int32) &&& 0x3f).toInt64) by_))] [(.int (own_fits (((0 : Int64) + (q2 >>> ((3 : Int32) &&& 0x3f).toInt64)) + (q3 >>> ((3 : Int32) &&& 0x3f).toInt64)) (q1 >>> ((2 : Int32) &&& 0x3f).toInt64) by_))])) _
    refine XS.iload X6.here hx rfl (hb hby at_129) rfl ?_
    show Steps p.tables e below (T6.setTop (mkF m 131 #[.val (.long q1), .second, .val (.long q2), .second, .val (.long q3), .second, .val (.long q4), .second, .val (.int p5), .val (.long (q1 >>> ((2 : Int32) &&& 0x3f).toInt64)), .second, .val (.long (q2 >>> ((3 : Int32) &&& 0x3f).toInt64)), .second, .val (.long (q3 >>> ((3 : Int32) &&& 0x3f).toInt64)), .second, .val (.long ((q2 >>> ((3 : Int32) &&& 0x3f).toInt64) + (q3 >>> ((3 : Int32) &&& 0x3f).toInt64))), .second, .val (.int (p5 &&& (3 : Int32))), .val (.long by_), .second, .val (.ref a), .val (.int ex), .val (.int (own_fits (((0 : Int64) + (q2 >>> ((3 : Int32) &&& 0x3f).toInt64)) + (q3 >>> ((3 : Int32) &&& 0x3f).toInt64)) (q1 >>> ((2 : Int32) &&& 0x3f).toInt64) by_)), .val (.int (own_fits (((0 : Int64) + (q2 >>> ((3 : Int32) &&& 0x3f).toInt64)) + (q3 >>> ((3 : Int32) &&& 0x3f).toInt64)) (q1 >>> ((2 : Int32) &&& 0x3f).toInt64) by_))] [(.int ex), (.int (own_fits (((0 : Int64) + (q2 >>> ((3 : Int32) &&& 0x3f).toInt64)) + (q3 >>> ((3 : Int32) &&& 0x3f).toInt64)) (q1 >>> ((2 : Int32) &&& 0x3f).toInt64) by_))])) _
    refine XS.icmpNo X6.here hx rfl (hb hby at_131) rfl (teq hex).2 ?_
    show Steps p.tables e below (T6.setTop (mkF m 134 #[.val (.long q1), .second, .val (.long q2), .second, .val (.long q3), .second, .val (.long q4), .second, .val (.int p5), .val (.long (q1 >>> ((2 : Int32) &&& 0x3f).toInt64)), .second, .val (.long (q2 >>> ((3 : Int32) &&& 0x3f).toInt64)), .second, .val (.long (q3 >>> ((3 : Int32) &&& 0x3f).toInt64)), .second, .val (.long ((q2 >>> ((3 : Int32) &&& 0x3f).toInt64) + (q3 >>> ((3 : Int32) &&& 0x3f).toInt64))), .second, .val (.int (p5 &&& (3 : Int32))), .val (.long by_), .second, .val (.ref a), .val (.int ex), .val (.int (own_fits (((0 : Int64) + (q2 >>> ((3 : Int32) &&& 0x3f).toInt64)) + (q3 >>> ((3 : Int32) &&& 0x3f).toInt64)) (q1 >>> ((2 : Int32) &&& 0x3f).toInt64) by_)), .val (.int (own_fits (((0 : Int64) + (q2 >>> ((3 : Int32) &&& 0x3f).toInt64)) + (q3 >>> ((3 : Int32) &&& 0x3f).toInt64)) (q1 >>> ((2 : Int32) &&& 0x3f).toInt64) by_))] [])) _
    refine XS.iconst X6.here hx rfl (hb hby at_134) ?_
    show Steps p.tables e below (T6.setTop (mkF m 135 #[.val (.long q1), .second, .val (.long q2), .second, .val (.long q3), .second, .val (.long q4), .second, .val (.int p5), .val (.long (q1 >>> ((2 : Int32) &&& 0x3f).toInt64)), .second, .val (.long (q2 >>> ((3 : Int32) &&& 0x3f).toInt64)), .second, .val (.long (q3 >>> ((3 : Int32) &&& 0x3f).toInt64)), .second, .val (.long ((q2 >>> ((3 : Int32) &&& 0x3f).toInt64) + (q3 >>> ((3 : Int32) &&& 0x3f).toInt64))), .second, .val (.int (p5 &&& (3 : Int32))), .val (.long by_), .second, .val (.ref a), .val (.int ex), .val (.int (own_fits (((0 : Int64) + (q2 >>> ((3 : Int32) &&& 0x3f).toInt64)) + (q3 >>> ((3 : Int32) &&& 0x3f).toInt64)) (q1 >>> ((2 : Int32) &&& 0x3f).toInt64) by_)), .val (.int (own_fits (((0 : Int64) + (q2 >>> ((3 : Int32) &&& 0x3f).toInt64)) + (q3 >>> ((3 : Int32) &&& 0x3f).toInt64)) (q1 >>> ((2 : Int32) &&& 0x3f).toInt64) by_))] [(.int (1 : Int32))])) _
    refine XS.goto X6.here hx rfl (pc0 := 135) (pc' := 139) rfl (hb hby at_135) (by decide) (by decide) ?_
    show Steps p.tables e below (T6.setTop (mkF m 139 #[.val (.long q1), .second, .val (.long q2), .second, .val (.long q3), .second, .val (.long q4), .second, .val (.int p5), .val (.long (q1 >>> ((2 : Int32) &&& 0x3f).toInt64)), .second, .val (.long (q2 >>> ((3 : Int32) &&& 0x3f).toInt64)), .second, .val (.long (q3 >>> ((3 : Int32) &&& 0x3f).toInt64)), .second, .val (.long ((q2 >>> ((3 : Int32) &&& 0x3f).toInt64) + (q3 >>> ((3 : Int32) &&& 0x3f).toInt64))), .second, .val (.int (p5 &&& (3 : Int32))), .val (.long by_), .second, .val (.ref a), .val (.int ex), .val (.int (own_fits (((0 : Int64) + (q2 >>> ((3 : Int32) &&& 0x3f).toInt64)) + (q3 >>> ((3 : Int32) &&& 0x3f).toInt64)) (q1 >>> ((2 : Int32) &&& 0x3f).toInt64) by_)), .val (.int (own_fits (((0 : Int64) + (q2 >>> ((3 : Int32) &&& 0x3f).toInt64)) + (q3 >>> ((3 : Int32) &&& 0x3f).toInt64)) (q1 >>> ((2 : Int32) &&& 0x3f).toInt64) by_))] [(.int (1 : Int32))])) _
    exact retN X6 hx (t := .boolean) Bd.returns (by simp) (hb hby at_139) hr
  · show Q_law Z q1 q2 q3 q4 p5 h0 n0 _ T6.heap _
    rw [e6]
    exact ⟨rfl, N6⟩
set_option maxRecDepth 65536 in
set_option maxHeartbeats 40000000 in
theorem comes_1 {Post : Tables → Env → Array Value → State → Outcome → State → Prop} (hpost : ∀ tb e args s v u, (limb_1_1.after args s (.returned v) u = true ∧ limb_1_2.after args s (.returned v) u = true ∧ True) → FrameEnd s (.returned v) u (Jvm.fieldLocs frame_1_writes args s ++ Jvm.arrayLocs frame_1_arrays args s ++ Jvm.staticLocs frame_1_statics s) 16 256 → Post tb e args s (.returned v) u) :
    ArmFor flags0 classFile x code maxLocals ret World_1 tables_1 room_1 Calls_1 rest_1 Pre_1 Post := by
  intro l hfl _ _ p e ha hc hk s m args below hf hA hF happ hP
  obtain ⟨hcalls, hrest, hpre⟩ := hP
  obtain ⟨-, -, -, hnamed, -, -, -, hat⟩ := (Spec.applies_iff hf).mp happ
  obtain ⟨hg, hn⟩ := and_e (Cond.before_iff.mp (show (Jvm.Cond.and given_1 narrow_1).before args s = true from hpre))
  obtain ⟨hcount, hg0⟩ := and_e hg
  obtain ⟨ga0, hg1⟩ := and_e hg0
  obtain ⟨ga1, hg2⟩ := and_e hg1
  obtain ⟨ga2, hg3⟩ := and_e hg2
  obtain ⟨ga3, hg4⟩ := and_e hg3
  have ga4 := hg4
  obtain ⟨w0, w1, w2, w3, w4, rfl⟩ : ∃ w0 w1 w2 w3 w4 : Value, args = #[w0, w1, w2, w3, w4] := by
    have hs : args.size = 5 := by simpa [Cond.value, given_1] using hcount
    obtain ⟨L⟩ := args
    match L, hs with
    | [w0, w1, w2, w3, w4], _ => exact ⟨w0, w1, w2, w3, w4, rfl⟩
  have hw := fun d (hd : d ∈ tables_1) => atoms_spec (ws := Jvm.Cond.code x code maxLocals ret :: tables_1) hat d (List.mem_cons_of_mem _ hd)
  obtain ⟨i0, ei0⟩ := isL_v ga0
  obtain rfl : w0 = (.long i0) := Option.some.inj ei0
  obtain ⟨i1, ei1⟩ := isL_v ga1
  obtain rfl : w1 = (.long i1) := Option.some.inj ei1
  obtain ⟨i2, ei2⟩ := isL_v ga2
  obtain rfl : w2 = (.long i2) := Option.some.inj ei2
  obtain ⟨i3, ei3⟩ := isL_v ga3
  obtain rfl : w3 = (.long i3) := Option.some.inj ei3
  obtain ⟨i4, ei4⟩ := is_v ga4
  obtain rfl : w4 = (.int i4) := Option.some.inj ei4
  obtain ⟨n, o, h1, h2, h3, _, L, rfl, ⟨rfl, N⟩, hq⟩ := rm_law l s _ hw tables_1 i0 i1 i2 i3 i4 s.heap s.heap.size (Nat.le_refl _) p e ha hc hk s m _ below hf ((Spec.applies_iff_loose hf).mp happ).1 ⟨rfl, State.Warmed39.refl s, rfl⟩ trivial
  refine ⟨n, _, h1, h2, h3, hpost _ _ _ _ _ _ ⟨Cond.after_iff.mpr rfl, Cond.after_iff.mpr (eq_i res_at (Term.int_eval (1)) rfl), trivial⟩ ⟨hq.1, hq.2.1, (hq.2.2.sift fun y hy => Or.inr (N y hy)).mono (by decide) (by decide)⟩⟩
theorem main_1_1 : Claimed_1_1 := comes_1 fun _ _ _ _ _ _ h hF => ⟨h.1, hF⟩
theorem main_1_2 : Claimed_1_2 := comes_1 fun _ _ _ _ _ _ h hF => ⟨h.2.1, hF⟩
end Jvm.Pilot.@@N@@
namespace Jvm.Pilot.@@N@@
open Jvm Jvm.ClassFile Sem Op Lib Jvm.Free Jvm.Stand Jvm.Pilot.@@N@@.Jvm.D
/-! MADE BY PROGRAM (witnessworld.py) out of the Statement's table words and the real class files: 13 classes; the members and pool entries that the words name. The judged class is class 1, her method 1. -/
namespace start1
open Jvm.ClassFile
def u (s : String) : CpInfo := .utf8 (stringToUtf16 s)
/-- a pool by its gaps: so many unusable entries, then the entry; so many at the end -/
def gap : Nat → List CpInfo → List CpInfo
  | 0, r => r
  | n + 1, r => .unusable :: gap n r
def poolList (es : List (Nat × CpInfo)) (last : Nat) : List CpInfo := es.foldr (fun e r => gap e.1 (e.2 :: r)) (gap last [])
def pool (es : List (Nat × CpInfo)) (last : Nat) : Array CpInfo := ⟨poolList es last⟩
def fileOf (pool : Array CpInfo) (this : Nat) (attrs : Array Attribute := #[]) (ms : Array MethodInfo := #[]) (fl : Nat := 33) (sup : Nat := 0) (ifs : Array Nat := #[]) (fds : Array FieldInfo := #[]) : ClassFile where
  minorVersion := 0
  majorVersion := 65
  constantPool := pool
  accessFlags := fl
  thisClass := this
  superClass := sup
  interfaces := ifs
  fields := fds
  methods := ms
  attributes := attrs
def plain (name : String) (sup : Option ClassId) : Class where
  name := name
  kind := .ordinary
  loader := none
  accessFlags := 33
  super := sup
  interfaces := #[]
  cf := none
  fields := #[]
  methods := #[]
  instanceTypes := #[]
  staticTypes := #[]
  resolved := #[]
  callSites := []
  init := .initialized
  statics := none
  mirror := none

def pool0 : Array CpInfo := pool [(5, u "<init>"), (0, u "()V"), (1, .class_ 10), (1, u "java/lang/Object")] 113

def k0c0 : Code := { maxStack := 0, maxLocals := 1, code := object_method_1_code, exceptionTable := #[], attributes := #[] }
def k0m0 : Method := { name := "<init>", desc := "()V", sig := { parameters := [], returnType := none }, accessFlags := 1, code := some k0c0 }
/-- java/lang/Object -/
def k0 : Class := { plain "java/lang/Object" none with
  accessFlags := 33
  interfaces := #[]
  cf := some (fileOf pool0 8 #[] #[{ accessFlags := 1, nameIndex := 5, descriptorIndex := 6, attributes := #[] }] 33 0 #[] #[])
  fields := #[]
  methods := #[k0m0]
  instanceTypes := #[]
  staticTypes := #[]
  resolved := Array.replicate 124 none
  statics := none }

def pool1 : Array CpInfo := pool [(2, .class_ 4), (1, u "java/lang/Object"), (0, u "<init>"), (0, u "()V"), (0, .class_ 8), (0, u "com/example/seatwire/seatwire/Room"), (0, .methodref 7 10), (0, .nameAndType 5 11), (0, u "(J)V"), (0, .methodref 7 13), (0, .nameAndType 14 11), (0, u "use"), (0, .methodref 7 16), (0, .nameAndType 17 18), (0, u "fits"), (0, u "(J)Z"), (0, .class_ 20), (0, u "com/example/seatwire/seatwire/RoomFitsPinLaw"), (2, u "law"), (0, u "(JJJJI)Z")] 3

def k1m0 : Method := { name := "<init>", desc := "()V", sig := { parameters := [], returnType := none }, accessFlags := 1, code := none }
def k1c1 : Code := { maxStack := 4, maxLocals := 24, code := code, exceptionTable := #[], attributes := #[] }
def k1m1 : Method := { name := "law", desc := "(JJJJI)Z", sig := { parameters := [.long, .long, .long, .long, .int], returnType := some .boolean }, accessFlags := 9, code := some k1c1 }
/-- com/example/seatwire/seatwire/RoomFitsPinLaw -/
def k1 : Class := { plain "com/example/seatwire/seatwire/RoomFitsPinLaw" (some 0) with
  accessFlags := 49
  interfaces := #[]
  cf := some (fileOf pool1 19 #[] #[{ accessFlags := 1, nameIndex := 5, descriptorIndex := 6, attributes := #[] }, { accessFlags := 9, nameIndex := 23, descriptorIndex := 24, attributes := #[] }] 49 2 #[] #[])
  fields := #[]
  methods := #[k1m0, k1m1]
  instanceTypes := #[]
  staticTypes := #[]
  resolved := Array.replicate 28 none
  statics := none }

def pool2 : Array CpInfo := pool [(1, .methodref 2 3), (0, .class_ 4), (0, .nameAndType 5 6), (0, u "java/lang/Object"), (0, u "<init>"), (0, u "()V"), (0, .class_ 8), (0, u "java/util/IdentityHashMap"), (0, .methodref 7 3), (0, .fieldref 11 12), (0, .class_ 13), (0, .nameAndType 14 15), (0, u "com/example/seatwire/seatwire/Room"), (0, u "queues"), (0, u "Ljava/util/IdentityHashMap;"), (0, .fieldref 11 17), (0, .nameAndType 18 19), (0, u "size"), (0, u "J"), (0, .fieldref 11 21), (0, .nameAndType 22 19), (0, u "held"), (21, u "OVERHEAD"), (0, u "I"), (4, u "(J)V"), (2, u "fits"), (0, u "(J)Z"), (1, u "use")] 32

def k2c0 : Code := { maxStack := 3, maxLocals := 3, code := prog_7_method_1_code, exceptionTable := #[], attributes := #[] }
def k2m0 : Method := { name := "<init>", desc := "(J)V", sig := { parameters := [.long], returnType := none }, accessFlags := 0, code := some k2c0 }
def k2c1 : Code := { maxStack := 4, maxLocals := 3, code := prog_7_method_2_code, exceptionTable := #[], attributes := #[] }
def k2m1 : Method := { name := "fits", desc := "(J)Z", sig := { parameters := [.long], returnType := some .boolean }, accessFlags := 0, code := some k2c1 }
def k2c2 : Code := { maxStack := 5, maxLocals := 3, code := prog_7_method_3_code, exceptionTable := #[], attributes := #[] }
def k2m2 : Method := { name := "use", desc := "(J)V", sig := { parameters := [.long], returnType := none }, accessFlags := 0, code := some k2c2 }
/-- com/example/seatwire/seatwire/Room -/
def k2 : Class := { plain "com/example/seatwire/seatwire/Room" (some 0) with
  accessFlags := 48
  interfaces := #[]
  cf := some (fileOf pool2 11 #[] #[{ accessFlags := 0, nameIndex := 5, descriptorIndex := 50, attributes := #[] }, { accessFlags := 0, nameIndex := 53, descriptorIndex := 54, attributes := #[] }, { accessFlags := 0, nameIndex := 56, descriptorIndex := 50, attributes := #[] }] 48 2 #[] #[{ accessFlags := 24, nameIndex := 44, descriptorIndex := 45, attributes := #[] }, { accessFlags := 18, nameIndex := 18, descriptorIndex := 19, attributes := #[] }, { accessFlags := 2, nameIndex := 22, descriptorIndex := 19, attributes := #[] }, { accessFlags := 18, nameIndex := 14, descriptorIndex := 15, attributes := #[] }])
  fields := #[{ name := "OVERHEAD", type := .int, accessFlags := 24, slot := 0, constantValue := 0 }, { name := "size", type := .long, accessFlags := 18, slot := 0, constantValue := 0 }, { name := "held", type := .long, accessFlags := 2, slot := 1, constantValue := 0 }, { name := "queues", type := (.object "java/util/IdentityHashMap"), accessFlags := 18, slot := 2, constantValue := 0 }]
  methods := #[k2m0, k2m1, k2m2]
  instanceTypes := #[.long, .long, (.object "java/util/IdentityHashMap")]
  staticTypes := #[.int]
  resolved := Array.replicate 89 none
  statics := none }

def pool3 : Array CpInfo := pool [(2, .class_ 4), (1, u "java/util/Map"), (31, .class_ 37), (0, u "java/util/Map$Entry"), (55, .class_ 94), (0, u "java/lang/Object")] 168

/-- java/util/Map -/
def k3 : Class := { plain "java/util/Map" (some 0) with
  accessFlags := 1537
  interfaces := #[]
  cf := some (fileOf pool3 2 #[.nestMembers #[36]] #[] 1537 93 #[] #[])
  fields := #[]
  methods := #[]
  instanceTypes := #[]
  staticTypes := #[]
  resolved := Array.replicate 263 none
  statics := none }

def pool4 : Array CpInfo := pool [(1, .methodref 2 3), (0, .class_ 4), (0, .nameAndType 5 6), (0, u "java/lang/Object"), (0, u "<init>"), (0, u "()V"), (1, .class_ 10), (1, u "java/util/AbstractMap"), (42, .class_ 54), (0, u "java/util/Map"), (9, u "keySet"), (0, u "Ljava/util/Set;"), (0, .class_ 67), (0, u "java/util/AbstractMap$1"), (5, u "values"), (0, u "Ljava/util/Collection;"), (0, .class_ 76), (0, u "java/util/AbstractMap$2"), (104, .class_ 182), (0, u "java/util/AbstractMap$ViewCollection"), (0, .class_ 184), (0, u "java/util/AbstractMap$SimpleImmutableEntry"), (0, .class_ 186), (0, u "java/util/AbstractMap$SimpleEntry"), (0, .class_ 188), (0, u "java/util/AbstractMap$2$1"), (0, .class_ 190), (0, u "java/util/AbstractMap$1$1")] 5

def k4c0 : Code := { maxStack := 1, maxLocals := 1, code := jdk_71_method_1_code, exceptionTable := #[], attributes := #[] }
def k4m0 : Method := { name := "<init>", desc := "()V", sig := { parameters := [], returnType := none }, accessFlags := 4, code := some k4c0 }
/-- java/util/AbstractMap -/
def k4 : Class := { plain "java/util/AbstractMap" (some 0) with
  accessFlags := 1057
  interfaces := #[3]
  cf := some (fileOf pool4 8 #[.nestMembers #[181, 183, 185, 75, 187, 66, 189]] #[{ accessFlags := 4, nameIndex := 5, descriptorIndex := 6, attributes := #[] }] 1057 2 #[53] #[{ accessFlags := 128, nameIndex := 64, descriptorIndex := 65, attributes := #[] }, { accessFlags := 128, nameIndex := 73, descriptorIndex := 74, attributes := #[] }])
  fields := #[{ name := "keySet", type := (.object "java/util/Set"), accessFlags := 128, slot := 0, constantValue := 0 }, { name := "values", type := (.object "java/util/Collection"), accessFlags := 128, slot := 1, constantValue := 0 }]
  methods := #[k4m0]
  instanceTypes := #[(.object "java/util/Set"), (.object "java/util/Collection")]
  staticTypes := #[]
  resolved := Array.replicate 196 none
  statics := none }

def pool5 : Array CpInfo := pool [(1, .class_ 2), (0, u "java/io/Serializable"), (0, .class_ 4), (0, u "java/lang/Object")] 2

/-- java/io/Serializable -/
def k5 : Class := { plain "java/io/Serializable" (some 0) with
  accessFlags := 1537
  interfaces := #[]
  cf := some (fileOf pool5 1 #[] #[] 1537 3 #[] #[])
  fields := #[]
  methods := #[]
  instanceTypes := #[]
  staticTypes := #[]
  resolved := Array.replicate 7 none
  statics := none }

def pool6 : Array CpInfo := pool [(1, .class_ 2), (0, u "java/lang/Cloneable"), (0, .class_ 4), (0, u "java/lang/Object")] 2

/-- java/lang/Cloneable -/
def k6 : Class := { plain "java/lang/Cloneable" (some 0) with
  accessFlags := 1537
  interfaces := #[]
  cf := some (fileOf pool6 1 #[] #[] 1537 3 #[] #[])
  fields := #[]
  methods := #[]
  instanceTypes := #[]
  staticTypes := #[]
  resolved := Array.replicate 7 none
  statics := none }

def pool7 : Array CpInfo := pool [(2, .class_ 4), (1, u "java/util/IdentityHashMap"), (0, u "NULL_KEY"), (0, u "Ljava/lang/Object;"), (0, .methodref 8 9), (0, .class_ 10), (0, .nameAndType 11 12), (0, u "java/util/AbstractMap"), (0, u "<init>"), (0, u "()V"), (0, .methodref 2 14), (0, .nameAndType 15 16), (0, u "init"), (0, u "(I)V"), (32, .class_ 50), (0, u "java/lang/Object"), (0, .fieldref 2 52), (0, .nameAndType 53 54), (0, u "table"), (0, u "[Ljava/lang/Object;"), (1, .class_ 58), (1, u "java/util/Map"), (0, u "size"), (11, u "I"), (24, u "modCount"), (9, u "entrySet"), (50, u "Ljava/util/Set;"), (12, .class_ 171), (0, u "java/util/IdentityHashMap$KeySet"), (7, .class_ 180), (0, u "java/util/IdentityHashMap$Values"), (1, .class_ 183), (0, u "java/util/IdentityHashMap$EntrySet"), (69, .class_ 254), (0, u "java/io/Serializable"), (0, .class_ 256), (0, u "java/lang/Cloneable"), (0, u "DEFAULT_CAPACITY"), (2, u "MINIMUM_CAPACITY"), (1, u "MAXIMUM_CAPACITY"), (2, u "serialVersionUID"), (0, u "J"), (102, .class_ 370), (0, u "java/util/IdentityHashMap$EntrySpliterator"), (0, .class_ 372), (0, u "java/util/IdentityHashMap$ValueSpliterator"), (0, .class_ 374), (0, u "java/util/IdentityHashMap$KeySpliterator"), (0, .class_ 376), (0, u "java/util/IdentityHashMap$IdentityHashMapSpliterator"), (0, .class_ 378), (0, u "java/util/IdentityHashMap$EntryIterator"), (0, .class_ 380), (0, u "java/util/IdentityHashMap$EntryIterator$Entry"), (0, .class_ 382), (0, u "java/util/IdentityHashMap$ValueIterator"), (0, .class_ 384), (0, u "java/util/IdentityHashMap$KeyIterator"), (0, .class_ 386), (0, u "java/util/IdentityHashMap$IdentityHashMapIterator")] 16

def k7c0 : Code := { maxStack := 2, maxLocals := 1, code := jdk_2581_method_3_code, exceptionTable := #[], attributes := #[] }
def k7m0 : Method := { name := "<init>", desc := "()V", sig := { parameters := [], returnType := none }, accessFlags := 1, code := some k7c0 }
def k7c1 : Code := { maxStack := 3, maxLocals := 2, code := jdk_2581_method_6_code, exceptionTable := #[], attributes := #[] }
def k7m1 : Method := { name := "init", desc := "(I)V", sig := { parameters := [.int], returnType := none }, accessFlags := 2, code := some k7c1 }
/-- java/util/IdentityHashMap -/
def k7 : Class := { plain "java/util/IdentityHashMap" (some 4) with
  accessFlags := 33
  interfaces := #[3, 5, 6]
  cf := some (fileOf pool7 2 #[.nestMembers #[369, 371, 373, 375, 182, 179, 170, 377, 379, 381, 383, 385]] #[{ accessFlags := 1, nameIndex := 11, descriptorIndex := 12, attributes := #[] }, { accessFlags := 2, nameIndex := 15, descriptorIndex := 16, attributes := #[] }] 33 8 #[56, 253, 255] #[{ accessFlags := 26, nameIndex := 257, descriptorIndex := 71, attributes := #[] }, { accessFlags := 26, nameIndex := 260, descriptorIndex := 71, attributes := #[] }, { accessFlags := 26, nameIndex := 262, descriptorIndex := 71, attributes := #[] }, { accessFlags := 128, nameIndex := 53, descriptorIndex := 54, attributes := #[] }, { accessFlags := 0, nameIndex := 59, descriptorIndex := 71, attributes := #[] }, { accessFlags := 128, nameIndex := 96, descriptorIndex := 71, attributes := #[] }, { accessFlags := 24, nameIndex := 5, descriptorIndex := 6, attributes := #[] }, { accessFlags := 130, nameIndex := 106, descriptorIndex := 157, attributes := #[] }, { accessFlags := 26, nameIndex := 265, descriptorIndex := 266, attributes := #[] }])
  fields := #[{ name := "DEFAULT_CAPACITY", type := .int, accessFlags := 26, slot := 0, constantValue := 0 }, { name := "MINIMUM_CAPACITY", type := .int, accessFlags := 26, slot := 1, constantValue := 0 }, { name := "MAXIMUM_CAPACITY", type := .int, accessFlags := 26, slot := 2, constantValue := 0 }, { name := "table", type := (.array (.object "java/lang/Object")), accessFlags := 128, slot := 2, constantValue := 0 }, { name := "size", type := .int, accessFlags := 0, slot := 3, constantValue := 0 }, { name := "modCount", type := .int, accessFlags := 128, slot := 4, constantValue := 0 }, { name := "NULL_KEY", type := (.object "java/lang/Object"), accessFlags := 24, slot := 3, constantValue := 0 }, { name := "entrySet", type := (.object "java/util/Set"), accessFlags := 130, slot := 5, constantValue := 0 }, { name := "serialVersionUID", type := .long, accessFlags := 26, slot := 4, constantValue := 0 }]
  methods := #[k7m0, k7m1]
  instanceTypes := #[(.object "java/util/Set"), (.object "java/util/Collection"), (.array (.object "java/lang/Object")), .int, .int, (.object "java/util/Set")]
  staticTypes := #[.int, .int, .int, (.object "java/lang/Object"), .long]
  resolved := Array.replicate 403 none
  statics := none }

/-- the primitive byte -/
def k8 : Class := { plain "byte" none with kind := .primitive 'B', accessFlags := 0x411 }
/-- [B -/
def k9 : Class := { plain "[B" (some 0) with kind := .array 8 .byte, interfaces := #[6, 5], accessFlags := 1041 }

/-- the primitive int -/
def k10 : Class := { plain "int" none with kind := .primitive 'I', accessFlags := 0x411 }
/-- [I -/
def k11 : Class := { plain "[I" (some 0) with kind := .array 10 .int, interfaces := #[6, 5], accessFlags := 1041 }

/-- [Ljava/lang/Object; -/
def k12 : Class := { plain "[Ljava/lang/Object;" (some 0) with kind := .array 0 (.object "java/lang/Object"), interfaces := #[6, 5], accessFlags := 1041 }

def heap : Heap := #[]
def classes : Array Class := #[k0, k1, k2, k3, k4, k5, k6, k7, k8, k9, k10, k11, k12]
def interned : List (Array UInt16 × Addr) := []
def slotsUsed : Nat := 0
def theMethod : MethodId := ⟨1, 1⟩
def args0 : Array Value := #[.long 5, .long 6, .long 7, .long 8, .int 2]
def aboutOver (below : List Frame) : State where
  vm := { classes := classes, interned := interned.toArray }
  heap := heap
  slotsUsed := slotsUsed
  threads := #[{ frames := .invoking theMethod args0 :: below }]
def below0 : List Frame := [.native { method := ⟨0, 0⟩, args := #[] }]
def about1 : State := aboutOver below0
def p0 : Program := .bare "" "" ""
def e0 : Env := launch0.env 0 0 0
theorem w_frames : about1.frames = Frame.invoking theMethod args0 :: below0 := rfl
set_option maxRecDepth 65536 in
theorem w_args : argsFit about1.vm theMethod args0 = true := by decide +kernel
set_option maxRecDepth 65536 in
theorem w_heap : heapFits about1 = true := by decide +kernel
set_option maxRecDepth 65536 in
theorem w_runnable : about1.curStatus? = some .runnable := by decide +kernel
set_option maxRecDepth 65536 in
theorem w_alone : about1.alone = true := by decide +kernel
set_option maxRecDepth 65536 in
theorem w_named : about1.methodNamed? x = some theMethod := by decide +kernel
set_option maxRecDepth 65536 in
theorem w_hears : about1.hears theMethod below0 = true := by decide +kernel
set_option maxRecDepth 65536 in
theorem w_ripe : about1.ripe theMethod args0 below0 = true := by decide +kernel
theorem w_running : about1.status = .running := rfl
set_option maxRecDepth 65536 in
theorem w_room : about1.hasRoom e0.platform room_1 = true :=
  launch0.hasRoom_least _ room_1 (by decide +kernel) (by decide +kernel) (by decide +kernel) (by decide +kernel) (by decide +kernel) (by decide +kernel)
theorem allAtoms_all (ts : List Jvm.Cond) (a : Array Jvm.Value) (st : Jvm.State) : (allAtoms ts).before a st = ts.all (fun c => c.before a st) := by
  induction ts with
  | nil => rfl
  | cons c t ih =>
    show (Jvm.Cond.and c (allAtoms t)).before a st = _
    rw [Jvm.Cond.before_and, ih, List.all_cons]
def words1 : List Jvm.Cond := Jvm.Cond.code x code maxLocals ret :: tables_1
/-- a 'code' word, met by the world's own term for the bytes: nothing is compared byte by byte -/
theorem code_word {y : MethodName} {bytes : ByteArray} {mx : Nat} {rt : Option FieldType} {a : Array Value} {s : State} {m : MethodId} {meth : Method} {c : Code} (h1 : s.methodNamed? y = some m) (h2 : s.vm.method? m = some meth) (h3 : meth.code = some c) (h4 : c.code = bytes)
    (h5 : (c.maxLocals == mx && c.exceptionTable.isEmpty && decide (c.maxStack ≤ mostOperands) && decide (meth.sig.returnType = rt) && !meth.locks && decide (parseMethodDescriptor y.desc = some meth.sig)) = true) : (Jvm.Cond.code y bytes mx rt).before a s = true := by
  simp only [Bool.and_eq_true, beq_iff_eq, Bool.not_eq_true', decide_eq_true_eq] at h5
  obtain ⟨⟨⟨⟨⟨g1, g2⟩, g3⟩, g4⟩, g5⟩, g6⟩ := h5
  simp [Cond.before, Cond.holds, Cond.value, h1, h2, h3, h4, g1, g2, g3, g4, g5, g6]
def isCode : Jvm.Cond → Bool
  | .code _ _ _ _ => true
  | _ => false
theorem all_split {L : List Jvm.Cond} {P : Jvm.Cond → Bool} (h1 : L.all (fun c => isCode c || P c) = true) (h2 : ∀ c ∈ L.filter isCode, P c = true) : L.all P = true := by
  refine List.all_eq_true.mpr fun c hc => ?_
  have h := List.all_eq_true.mp h1 c hc
  rcases Bool.eq_false_or_eq_true (isCode c) with hi | hi
  · exact h2 c (List.mem_filter.mpr ⟨hc, hi⟩)
  · simpa [hi] using h
set_option maxRecDepth 65536 in
theorem w_c0 : (Jvm.Cond.code x code maxLocals ret).before args0 about1 = true := code_word (m := ⟨1, 1⟩) (meth := k1m1) (c := k1c1) (by decide +kernel) rfl rfl rfl (by decide +kernel)
set_option maxRecDepth 65536 in
theorem w_c1 : (Jvm.Cond.code ({ cls := "com/example/seatwire/seatwire/Room", name := "<init>", desc := "(J)V" } : Jvm.MethodName) prog_7_method_1_code (3 : Nat) (Option.none : Option Jvm.ClassFile.FieldType)).before args0 about1 = true := code_word (m := ⟨2, 0⟩) (meth := k2m0) (c := k2c0) (by decide +kernel) rfl rfl rfl (by decide +kernel)
set_option maxRecDepth 65536 in
theorem w_c2 : (Jvm.Cond.code ({ cls := "java/lang/Object", name := "<init>", desc := "()V" } : Jvm.MethodName) object_method_1_code (1 : Nat) (Option.none : Option Jvm.ClassFile.FieldType)).before args0 about1 = true := code_word (m := ⟨0, 0⟩) (meth := k0m0) (c := k0c0) (by decide +kernel) rfl rfl rfl (by decide +kernel)
set_option maxRecDepth 65536 in
theorem w_c3 : (Jvm.Cond.code ({ cls := "java/util/IdentityHashMap", name := "<init>", desc := "()V" } : Jvm.MethodName) jdk_2581_method_3_code (1 : Nat) (Option.none : Option Jvm.ClassFile.FieldType)).before args0 about1 = true := code_word (m := ⟨7, 0⟩) (meth := k7m0) (c := k7c0) (by decide +kernel) rfl rfl rfl (by decide +kernel)
set_option maxRecDepth 65536 in
theorem w_c4 : (Jvm.Cond.code ({ cls := "java/util/AbstractMap", name := "<init>", desc := "()V" } : Jvm.MethodName) jdk_71_method_1_code (1 : Nat) (Option.none : Option Jvm.ClassFile.FieldType)).before args0 about1 = true := code_word (m := ⟨4, 0⟩) (meth := k4m0) (c := k4c0) (by decide +kernel) rfl rfl rfl (by decide +kernel)
set_option maxRecDepth 65536 in
theorem w_c5 : (Jvm.Cond.code ({ cls := "java/util/IdentityHashMap", name := "init", desc := "(I)V" } : Jvm.MethodName) jdk_2581_method_6_code (2 : Nat) (Option.none : Option Jvm.ClassFile.FieldType)).before args0 about1 = true := code_word (m := ⟨7, 1⟩) (meth := k7m1) (c := k7c1) (by decide +kernel) rfl rfl rfl (by decide +kernel)
set_option maxRecDepth 65536 in
theorem w_c6 : (Jvm.Cond.code ({ cls := "com/example/seatwire/seatwire/Room", name := "use", desc := "(J)V" } : Jvm.MethodName) prog_7_method_3_code (3 : Nat) (Option.none : Option Jvm.ClassFile.FieldType)).before args0 about1 = true := code_word (m := ⟨2, 2⟩) (meth := k2m2) (c := k2c2) (by decide +kernel) rfl rfl rfl (by decide +kernel)
set_option maxRecDepth 65536 in
theorem w_c7 : (Jvm.Cond.code ({ cls := "com/example/seatwire/seatwire/Room", name := "fits", desc := "(J)Z" } : Jvm.MethodName) prog_7_method_2_code (3 : Nat) (Option.some Jvm.ClassFile.FieldType.boolean)).before args0 about1 = true := code_word (m := ⟨2, 1⟩) (meth := k2m1) (c := k2c1) (by decide +kernel) rfl rfl rfl (by decide +kernel)
def codes1 : List Jvm.Cond := [Jvm.Cond.code x code maxLocals ret, Jvm.Cond.code ({ cls := "com/example/seatwire/seatwire/Room", name := "<init>", desc := "(J)V" } : Jvm.MethodName) prog_7_method_1_code (3 : Nat) (Option.none : Option Jvm.ClassFile.FieldType), Jvm.Cond.code ({ cls := "java/lang/Object", name := "<init>", desc := "()V" } : Jvm.MethodName) object_method_1_code (1 : Nat) (Option.none : Option Jvm.ClassFile.FieldType), Jvm.Cond.code ({ cls := "java/util/IdentityHashMap", name := "<init>", desc := "()V" } : Jvm.MethodName) jdk_2581_method_3_code (1 : Nat) (Option.none : Option Jvm.ClassFile.FieldType), Jvm.Cond.code ({ cls := "java/util/AbstractMap", name := "<init>", desc := "()V" } : Jvm.MethodName) jdk_71_method_1_code (1 : Nat) (Option.none : Option Jvm.ClassFile.FieldType), Jvm.Cond.code ({ cls := "java/util/IdentityHashMap", name := "init", desc := "(I)V" } : Jvm.MethodName) jdk_2581_method_6_code (2 : Nat) (Option.none : Option Jvm.ClassFile.FieldType), Jvm.Cond.code ({ cls := "com/example/seatwire/seatwire/Room", name := "use", desc := "(J)V" } : Jvm.MethodName) prog_7_method_3_code (3 : Nat) (Option.none : Option Jvm.ClassFile.FieldType), Jvm.Cond.code ({ cls := "com/example/seatwire/seatwire/Room", name := "fits", desc := "(J)Z" } : Jvm.MethodName) prog_7_method_2_code (3 : Nat) (Option.some Jvm.ClassFile.FieldType.boolean)]
set_option maxRecDepth 65536 in
theorem codes_eq : words1.filter isCode = codes1 := rfl
theorem w_codes : ∀ c ∈ words1.filter isCode, c.before args0 about1 = true := by
  rw [codes_eq]
  intro c hc
  simp only [codes1, List.mem_cons, List.not_mem_nil, or_false] at hc
  rcases hc with rfl | rfl | rfl | rfl | rfl | rfl | rfl | rfl
  · exact w_c0
  · exact w_c1
  · exact w_c2
  · exact w_c3
  · exact w_c4
  · exact w_c5
  · exact w_c6
  · exact w_c7
set_option maxRecDepth 65536 in
theorem w_t1 : (words1.take 24).all (fun c => isCode c || c.before args0 about1) = true := by decide +kernel
set_option maxRecDepth 65536 in
theorem w_t2 : (words1.drop 24).all (fun c => isCode c || c.before args0 about1) = true := by decide +kernel
theorem w_tables : (allAtoms (Jvm.Cond.code x code maxLocals ret :: tables_1)).before args0 about1 = true := by
  rw [allAtoms_all]
  show words1.all (fun c => c.before args0 about1) = true
  refine all_split ?_ w_codes
  rw [← List.take_append_drop 24 words1, List.all_append, w_t1, w_t2]
  rfl
set_option maxRecDepth 65536 in
theorem w_case : (Jvm.Cond.and given_1 narrow_1).before args0 about1 = true := by decide +kernel
theorem w_applies : (headSpec (Jvm.Cond.code x code maxLocals ret :: tables_1) room_1).applies x e0.platform about1 = true :=
  (Spec.applies_iff w_frames).mpr ⟨w_running, w_runnable, w_alone, w_named, w_hears, w_ripe, w_room, w_tables⟩
theorem atStart : AtStart classFile x code maxLocals ret World_1 tables_1 room_1 Calls_1 rest_1 Pre_1 launch0 p0 e0 about1 theMethod args0 below0 :=
  ⟨lists_1, trivial, launch0.admits_env _ _ _, launch0.least_env, fairChoices_fair.cas, fairChoices_fair.clock, w_frames, w_args, w_heap, w_applies, trivial, trivial, w_case⟩
end start1
theorem witness_1 : WitnessClaimed_1 := ⟨start1.p0, start1.e0, start1.about1, start1.theMethod, start1.args0, start1.below0, start1.atStart⟩
end Jvm.Pilot.@@N@@
