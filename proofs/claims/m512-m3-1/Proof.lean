import JvmDerived
import JvmDerived.Pilot.@@N@@Statement
import JvmDerived.Pilot.@@N@@Code
set_option linter.unusedVariables false
set_option linter.unusedSimpArgs false
namespace Jvm.Pilot.@@N@@
open Jvm Jvm.ClassFile Sem Op Lib Jvm.Free Jvm.Stand Jvm.LawKit Jvm.RoadKit Bundle Jvm.Pilot.@@N@@.Jvm.D
def own_pick (k : Int32) (a0 a1 a2 a3 a4 : Addr) : Addr := if k = (0 : Int32) then a0 else if k = (1 : Int32) then a1 else if k = (2 : Int32) then a2 else if k = (3 : Int32) then a3 else a4
def own_fin (a s3 s4 : Addr) : Int32 := if a = s3 then 1 else if a = s4 then 1 else 0
def own_exp (k : Int32) : Int32 := if k = (0 : Int32) then 0 else if k = (1 : Int32) then 0 else if k = (2 : Int32) then 0 else 1
theorem own_same (k : Int32) (a0 a1 a2 a3 a4 : Addr) (h03 : a0 ≠ a3) (h04 : a0 ≠ a4) (h13 : a1 ≠ a3) (h14 : a1 ≠ a4) (h23 : a2 ≠ a3) (h24 : a2 ≠ a4) : own_fin (own_pick k a0 a1 a2 a3 a4) a3 a4 = own_exp k := by
  unfold own_fin own_pick own_exp
  by_cases k0 : k = (0 : Int32)
  · simp [k0, h03, h04]
  · by_cases k1 : k = (1 : Int32)
    · simp [k1, h13, h14]
    · by_cases k2 : k = (2 : Int32)
      · simp [k2, h23, h24]
      · by_cases k3 : k = (3 : Int32)
        · simp [k3]
        · simp [k0, k1, k2, k3]
theorem own_pick_or (k : Int32) (a0 a1 a2 a3 a4 : Addr) : own_pick k a0 a1 a2 a3 a4 = a0 ∨ own_pick k a0 a1 a2 a3 a4 = a1 ∨ own_pick k a0 a1 a2 a3 a4 = a2 ∨ own_pick k a0 a1 a2 a3 a4 = a3 ∨ own_pick k a0 a1 a2 a3 a4 = a4 := by
  unfold own_pick
  split
  · exact Or.inl rfl
  · split
    · exact Or.inr (Or.inl rfl)
    · split
      · exact Or.inr (Or.inr (Or.inl rfl))
      · split
        · exact Or.inr (Or.inr (Or.inr (Or.inl rfl)))
        · exact Or.inr (Or.inr (Or.inr (Or.inr rfl)))
theorem own_dmethod_2_0 : decode method_2_code 0 = .ok (.iload_n 0, 1) := by decide +kernel
theorem own_dmethod_2_1 : decode method_2_code 1 = .ok (.ifCond .ne 7, 3) := by decide +kernel
theorem own_dmethod_2_4 : decode method_2_code 4 = .ok (.getstatic 7, 3) := by decide +kernel
theorem own_dmethod_2_7 : decode method_2_code 7 = .ok (.areturn, 1) := by decide +kernel
theorem own_dmethod_2_8 : decode method_2_code 8 = .ok (.iload_n 0, 1) := by decide +kernel
theorem own_dmethod_2_9 : decode method_2_code 9 = .ok (.iconst 1, 1) := by decide +kernel
theorem own_dmethod_2_10 : decode method_2_code 10 = .ok (.if_icmp .ne 7, 3) := by decide +kernel
theorem own_dmethod_2_13 : decode method_2_code 13 = .ok (.getstatic 13, 3) := by decide +kernel
theorem own_dmethod_2_16 : decode method_2_code 16 = .ok (.areturn, 1) := by decide +kernel
theorem own_dmethod_2_17 : decode method_2_code 17 = .ok (.iload_n 0, 1) := by decide +kernel
theorem own_dmethod_2_18 : decode method_2_code 18 = .ok (.iconst 2, 1) := by decide +kernel
theorem own_dmethod_2_19 : decode method_2_code 19 = .ok (.if_icmp .ne 7, 3) := by decide +kernel
theorem own_dmethod_2_22 : decode method_2_code 22 = .ok (.getstatic 16, 3) := by decide +kernel
theorem own_dmethod_2_25 : decode method_2_code 25 = .ok (.areturn, 1) := by decide +kernel
theorem own_dmethod_2_26 : decode method_2_code 26 = .ok (.iload_n 0, 1) := by decide +kernel
theorem own_dmethod_2_27 : decode method_2_code 27 = .ok (.iconst 3, 1) := by decide +kernel
theorem own_dmethod_2_28 : decode method_2_code 28 = .ok (.if_icmp .ne 7, 3) := by decide +kernel
theorem own_dmethod_2_31 : decode method_2_code 31 = .ok (.getstatic 19, 3) := by decide +kernel
theorem own_dmethod_2_34 : decode method_2_code 34 = .ok (.areturn, 1) := by decide +kernel
theorem own_dmethod_2_35 : decode method_2_code 35 = .ok (.getstatic 22, 3) := by decide +kernel
theorem own_dmethod_2_38 : decode method_2_code 38 = .ok (.areturn, 1) := by decide +kernel
theorem own_pn_com_example_entente_entente_wire_TransactionStatusIsFinalPinLaw : plainName "com/example/entente/entente/wire/TransactionStatusIsFinalPinLaw" = true := by first | (simp [plainName, overriddenIn]; done) | decide +kernel
theorem own_ef_pick (m : MethodId) (x0 : Int32) : entryFrame m #[(.int x0)] 1 = mkF m 0 #[.val (.int x0)] [] := by first | (simp [entryFrame, mkF, argsToLocals, Value.category]; done) | rfl
def Q_pick (Z : State) (p1 : Int32) (s0 : Addr) (s1 : Addr) (s2 : Addr) (s3 : Addr) (s4 : Addr) (h0 : Heap) (n0 : Nat) (v : Option Value) (h : Heap) (L : List Loc) : Prop := v = some (.ref (own_pick p1 s0 s1 s2 s3 s4)) ∧ Fr n0 L ∧ h = h0
set_option maxRecDepth 65536 in
set_option maxHeartbeats 40000000 in
theorem rm_pick (l : Launch) (Z : State) (a0 : Array Value) (hw : ∀ d ∈ tables_1, d.before a0 Z = true) (ws : List Jvm.Cond) (p1 : Int32) (s0 : Addr) (s1 : Addr) (s2 : Addr) (s3 : Addr) (s4 : Addr) (h0 : Heap) (n0 : Nat) (Z0 : n0 ≤ h0.size) (S0 : Sta Z h0 "com/example/entente/entente/wire/TransactionStatus" "PREPARED" "Lcom/example/entente/entente/wire/TransactionStatus;" (.ref s0)) (S1 : Sta Z h0 "com/example/entente/entente/wire/TransactionStatus" "SUBMITTED" "Lcom/example/entente/entente/wire/TransactionStatus;" (.ref s1)) (S2 : Sta Z h0 "com/example/entente/entente/wire/TransactionStatus" "ABORTING" "Lcom/example/entente/entente/wire/TransactionStatus;" (.ref s2)) (S3 : Sta Z h0 "com/example/entente/entente/wire/TransactionStatus" "SUCCEEDED" "Lcom/example/entente/entente/wire/TransactionStatus;" (.ref s3)) (S4 : Sta Z h0 "com/example/entente/entente/wire/TransactionStatus" "FAILED" "Lcom/example/entente/entente/wire/TransactionStatus;" (.ref s4)) :
    MetFree l (⟨"com/example/entente/entente/wire/TransactionStatusIsFinalPinLaw", "pick", "(I)Lcom/example/entente/entente/wire/TransactionStatus;"⟩ : MethodName) (head1 (Jvm.Cond.code (⟨"com/example/entente/entente/wire/TransactionStatusIsFinalPinLaw", "pick", "(I)Lcom/example/entente/entente/wire/TransactionStatus;"⟩ : MethodName) method_2_code 1 (some (.object "com/example/entente/entente/wire/TransactionStatus")) :: ws) ({ frames := 0, cells := 0, slots := 0, locals := 0 } : Room)) (fun a U => a = #[(.int p1)] ∧ Z.Warmed39 U.vm ∧ U.heap = h0) (fun _ _ _ _ _ => True) (fun _ U o U' => ∃ v L, o = .returned v ∧ Q_pick Z p1 s0 s1 s2 s3 s4 h0 n0 v U'.heap L ∧ FrameEnd U o U' L ({ frames := 0, cells := 0, slots := 0, locals := 0 } : Room).cells ({ frames := 0, cells := 0, slots := 0, locals := 0 } : Room).slots) := by
  refine MetFree.of_bodySF (plainFor_of_name own_pn_com_example_entente_entente_wire_TransactionStatusIsFinalPinLaw) hisR ?_
  intro p e s m args below meth c s₁ Bd hml0 hP hK
  obtain ⟨rfl, hZ, hh⟩ := hP
  have hx := Bd.exec
  have hby := Bd.bytes
  have hml : c.maxLocals = 1 := hml0
  have hown : s.vm.findClass "com/example/entente/entente/wire/TransactionStatusIsFinalPinLaw" = some m.cls := findClass_of_methodNamed Bd.named
  have hnm := (name_of_methodNamed Bd.named Bd.method).1
  have X0 : Stand p l e ({ frames := 0, cells := 0, slots := 0, locals := 0 } : Room) s m #[(.int p1)] below meth c s₁ [] 0 0 := Stand.of_body Bd
  have e0 : s₁.heap = h0 := by rw [← hh, Bd.state]; rfl
  have N0 := Fr.nil n0
  have pre0 : ∀ t, Steps p.tables e below (s₁.setTop (mkF m 0 #[.val (.int p1)] [])) t → Steps p.tables e below (s₁.setTop (entryFrame m #[(.int p1)] 1)) t := fun t k => castTop (own_ef_pick m p1) k
  by_cases k0 : p1 = (0 : Int32)
  · obtain ⟨T1, X1, e1, st1⟩ := getS2 X0 hx hZ hown (host := "") (Or.inl (hw _ (List.mem_of_getElem? (i := 5) rfl))) Via.refl e0 S0 (g := (mkF m 4 #[.val (.int p1)] [])) rfl (hb hby own_dmethod_2_4)
    obtain ⟨fs, hr, hrun, hended, hW, hsame⟩ := X1.leave (v := some (.ref s0)) (fun h => by rw [Bd.returns] at h; cases h)
    refine ⟨_, _, pre0 _ ?_, hrun, hended, _, _, rfl, ?_, ⟨_, rfl⟩, hW, hsame.mono (by decide) (by decide)⟩
    · show Steps p.tables e below (s₁.setTop (mkF m 0 #[.val (.int p1)] [])) _
      refine XS.iloadN X0.here hx rfl (hb hby own_dmethod_2_0) rfl ?_
      show Steps p.tables e below (s₁.setTop (mkF m 1 #[.val (.int p1)] [(.int p1)])) _
      refine XS.ifNo X0.here hx rfl (hb hby own_dmethod_2_1) rfl ((if0 _ _).trans (teq k0).2) ?_
      show Steps p.tables e below (s₁.setTop (mkF m 4 #[.val (.int p1)] [])) _
      refine st1 _ ?_
      show Steps p.tables e below (T1.setTop (mkF m 7 #[.val (.int p1)] [(.ref s0)])) _
      exact retOut X1 hx Bd.returns rfl (Or.inr (Or.inr (Or.inr (Or.inr ⟨rfl, rfl, rfl⟩)))) (hb hby own_dmethod_2_7) hr
    · show Q_pick Z p1 s0 s1 s2 s3 s4 h0 n0 _ T1.heap _
      rw [e1]
      exact ⟨(by unfold own_pick; rw [if_pos k0]), N0, rfl⟩
  · by_cases k1 : p1 = (1 : Int32)
    · obtain ⟨T2, X2, e2, st2⟩ := getS2 X0 hx hZ hown (host := "") (Or.inl (hw _ (List.mem_of_getElem? (i := 21) rfl))) Via.refl e0 S1 (g := (mkF m 13 #[.val (.int p1)] [])) rfl (hb hby own_dmethod_2_13)
      obtain ⟨fs, hr, hrun, hended, hW, hsame⟩ := X2.leave (v := some (.ref s1)) (fun h => by rw [Bd.returns] at h; cases h)
      refine ⟨_, _, pre0 _ ?_, hrun, hended, _, _, rfl, ?_, ⟨_, rfl⟩, hW, hsame.mono (by decide) (by decide)⟩
      · show Steps p.tables e below (s₁.setTop (mkF m 0 #[.val (.int p1)] [])) _
        refine XS.iloadN X0.here hx rfl (hb hby own_dmethod_2_0) rfl ?_
        show Steps p.tables e below (s₁.setTop (mkF m 1 #[.val (.int p1)] [(.int p1)])) _
        refine XS.ifYes X0.here hx rfl (pc0 := 1) (pc' := 8) rfl (hb hby own_dmethod_2_1) rfl ((if0 _ _).trans (feq k0).2) (by decide) (by decide) ?_
        show Steps p.tables e below (s₁.setTop (mkF m 8 #[.val (.int p1)] [])) _
        refine XS.iloadN X0.here hx rfl (hb hby own_dmethod_2_8) rfl ?_
        show Steps p.tables e below (s₁.setTop (mkF m 9 #[.val (.int p1)] [(.int p1)])) _
        refine XS.iconst X0.here hx rfl (hb hby own_dmethod_2_9) ?_
        show Steps p.tables e below (s₁.setTop (mkF m 10 #[.val (.int p1)] [(.int (1 : Int32)), (.int p1)])) _
        refine XS.icmpNo X0.here hx rfl (hb hby own_dmethod_2_10) rfl (teq k1).2 ?_
        show Steps p.tables e below (s₁.setTop (mkF m 13 #[.val (.int p1)] [])) _
        refine st2 _ ?_
        show Steps p.tables e below (T2.setTop (mkF m 16 #[.val (.int p1)] [(.ref s1)])) _
        exact retOut X2 hx Bd.returns rfl (Or.inr (Or.inr (Or.inr (Or.inr ⟨rfl, rfl, rfl⟩)))) (hb hby own_dmethod_2_16) hr
      · show Q_pick Z p1 s0 s1 s2 s3 s4 h0 n0 _ T2.heap _
        rw [e2]
        exact ⟨(by unfold own_pick; rw [if_neg k0, if_pos k1]), N0, rfl⟩
    · by_cases k2 : p1 = (2 : Int32)
      · obtain ⟨T3, X3, e3, st3⟩ := getS2 X0 hx hZ hown (host := "") (Or.inl (hw _ (List.mem_of_getElem? (i := 24) rfl))) Via.refl e0 S2 (g := (mkF m 22 #[.val (.int p1)] [])) rfl (hb hby own_dmethod_2_22)
        obtain ⟨fs, hr, hrun, hended, hW, hsame⟩ := X3.leave (v := some (.ref s2)) (fun h => by rw [Bd.returns] at h; cases h)
        refine ⟨_, _, pre0 _ ?_, hrun, hended, _, _, rfl, ?_, ⟨_, rfl⟩, hW, hsame.mono (by decide) (by decide)⟩
        · show Steps p.tables e below (s₁.setTop (mkF m 0 #[.val (.int p1)] [])) _
          refine XS.iloadN X0.here hx rfl (hb hby own_dmethod_2_0) rfl ?_
          show Steps p.tables e below (s₁.setTop (mkF m 1 #[.val (.int p1)] [(.int p1)])) _
          refine XS.ifYes X0.here hx rfl (pc0 := 1) (pc' := 8) rfl (hb hby own_dmethod_2_1) rfl ((if0 _ _).trans (feq k0).2) (by decide) (by decide) ?_
          show Steps p.tables e below (s₁.setTop (mkF m 8 #[.val (.int p1)] [])) _
          refine XS.iloadN X0.here hx rfl (hb hby own_dmethod_2_8) rfl ?_
          show Steps p.tables e below (s₁.setTop (mkF m 9 #[.val (.int p1)] [(.int p1)])) _
          refine XS.iconst X0.here hx rfl (hb hby own_dmethod_2_9) ?_
          show Steps p.tables e below (s₁.setTop (mkF m 10 #[.val (.int p1)] [(.int (1 : Int32)), (.int p1)])) _
          refine XS.icmpYes X0.here hx rfl (pc0 := 10) (pc' := 17) rfl (hb hby own_dmethod_2_10) rfl (feq k1).2 (by decide) (by decide) ?_
          show Steps p.tables e below (s₁.setTop (mkF m 17 #[.val (.int p1)] [])) _
          refine XS.iloadN X0.here hx rfl (hb hby own_dmethod_2_17) rfl ?_
          show Steps p.tables e below (s₁.setTop (mkF m 18 #[.val (.int p1)] [(.int p1)])) _
          refine XS.iconst X0.here hx rfl (hb hby own_dmethod_2_18) ?_
          show Steps p.tables e below (s₁.setTop (mkF m 19 #[.val (.int p1)] [(.int (2 : Int32)), (.int p1)])) _
          refine XS.icmpNo X0.here hx rfl (hb hby own_dmethod_2_19) rfl (teq k2).2 ?_
          show Steps p.tables e below (s₁.setTop (mkF m 22 #[.val (.int p1)] [])) _
          refine st3 _ ?_
          show Steps p.tables e below (T3.setTop (mkF m 25 #[.val (.int p1)] [(.ref s2)])) _
          exact retOut X3 hx Bd.returns rfl (Or.inr (Or.inr (Or.inr (Or.inr ⟨rfl, rfl, rfl⟩)))) (hb hby own_dmethod_2_25) hr
        · show Q_pick Z p1 s0 s1 s2 s3 s4 h0 n0 _ T3.heap _
          rw [e3]
          exact ⟨(by unfold own_pick; rw [if_neg k0, if_neg k1, if_pos k2]), N0, rfl⟩
      · by_cases k3 : p1 = (3 : Int32)
        · obtain ⟨T4, X4, e4, st4⟩ := getS2 X0 hx hZ hown (host := "") (Or.inl (hw _ (List.mem_of_getElem? (i := 20) rfl))) Via.refl e0 S3 (g := (mkF m 31 #[.val (.int p1)] [])) rfl (hb hby own_dmethod_2_31)
          obtain ⟨fs, hr, hrun, hended, hW, hsame⟩ := X4.leave (v := some (.ref s3)) (fun h => by rw [Bd.returns] at h; cases h)
          refine ⟨_, _, pre0 _ ?_, hrun, hended, _, _, rfl, ?_, ⟨_, rfl⟩, hW, hsame.mono (by decide) (by decide)⟩
          · show Steps p.tables e below (s₁.setTop (mkF m 0 #[.val (.int p1)] [])) _
            refine XS.iloadN X0.here hx rfl (hb hby own_dmethod_2_0) rfl ?_
            show Steps p.tables e below (s₁.setTop (mkF m 1 #[.val (.int p1)] [(.int p1)])) _
            refine XS.ifYes X0.here hx rfl (pc0 := 1) (pc' := 8) rfl (hb hby own_dmethod_2_1) rfl ((if0 _ _).trans (feq k0).2) (by decide) (by decide) ?_
            show Steps p.tables e below (s₁.setTop (mkF m 8 #[.val (.int p1)] [])) _
            refine XS.iloadN X0.here hx rfl (hb hby own_dmethod_2_8) rfl ?_
            show Steps p.tables e below (s₁.setTop (mkF m 9 #[.val (.int p1)] [(.int p1)])) _
            refine XS.iconst X0.here hx rfl (hb hby own_dmethod_2_9) ?_
            show Steps p.tables e below (s₁.setTop (mkF m 10 #[.val (.int p1)] [(.int (1 : Int32)), (.int p1)])) _
            refine XS.icmpYes X0.here hx rfl (pc0 := 10) (pc' := 17) rfl (hb hby own_dmethod_2_10) rfl (feq k1).2 (by decide) (by decide) ?_
            show Steps p.tables e below (s₁.setTop (mkF m 17 #[.val (.int p1)] [])) _
            refine XS.iloadN X0.here hx rfl (hb hby own_dmethod_2_17) rfl ?_
            show Steps p.tables e below (s₁.setTop (mkF m 18 #[.val (.int p1)] [(.int p1)])) _
            refine XS.iconst X0.here hx rfl (hb hby own_dmethod_2_18) ?_
            show Steps p.tables e below (s₁.setTop (mkF m 19 #[.val (.int p1)] [(.int (2 : Int32)), (.int p1)])) _
            refine XS.icmpYes X0.here hx rfl (pc0 := 19) (pc' := 26) rfl (hb hby own_dmethod_2_19) rfl (feq k2).2 (by decide) (by decide) ?_
            show Steps p.tables e below (s₁.setTop (mkF m 26 #[.val (.int p1)] [])) _
            refine XS.iloadN X0.here hx rfl (hb hby own_dmethod_2_26) rfl ?_
            show Steps p.tables e below (s₁.setTop (mkF m 27 #[.val (.int p1)] [(.int p1)])) _
            refine XS.iconst X0.here hx rfl (hb hby own_dmethod_2_27) ?_
            show Steps p.tables e below (s₁.setTop (mkF m 28 #[.val (.int p1)] [(.int (3 : Int32)), (.int p1)])) _
            refine XS.icmpNo X0.here hx rfl (hb hby own_dmethod_2_28) rfl (teq k3).2 ?_
            show Steps p.tables e below (s₁.setTop (mkF m 31 #[.val (.int p1)] [])) _
            refine st4 _ ?_
            show Steps p.tables e below (T4.setTop (mkF m 34 #[.val (.int p1)] [(.ref s3)])) _
            exact retOut X4 hx Bd.returns rfl (Or.inr (Or.inr (Or.inr (Or.inr ⟨rfl, rfl, rfl⟩)))) (hb hby own_dmethod_2_34) hr
          · show Q_pick Z p1 s0 s1 s2 s3 s4 h0 n0 _ T4.heap _
            rw [e4]
            exact ⟨(by unfold own_pick; rw [if_neg k0, if_neg k1, if_neg k2, if_pos k3]), N0, rfl⟩
        · obtain ⟨T5, X5, e5, st5⟩ := getS2 X0 hx hZ hown (host := "") (Or.inl (hw _ (List.mem_of_getElem? (i := 23) rfl))) Via.refl e0 S4 (g := (mkF m 35 #[.val (.int p1)] [])) rfl (hb hby own_dmethod_2_35)
          obtain ⟨fs, hr, hrun, hended, hW, hsame⟩ := X5.leave (v := some (.ref s4)) (fun h => by rw [Bd.returns] at h; cases h)
          refine ⟨_, _, pre0 _ ?_, hrun, hended, _, _, rfl, ?_, ⟨_, rfl⟩, hW, hsame.mono (by decide) (by decide)⟩
          · show Steps p.tables e below (s₁.setTop (mkF m 0 #[.val (.int p1)] [])) _
            refine XS.iloadN X0.here hx rfl (hb hby own_dmethod_2_0) rfl ?_
            show Steps p.tables e below (s₁.setTop (mkF m 1 #[.val (.int p1)] [(.int p1)])) _
            refine XS.ifYes X0.here hx rfl (pc0 := 1) (pc' := 8) rfl (hb hby own_dmethod_2_1) rfl ((if0 _ _).trans (feq k0).2) (by decide) (by decide) ?_
            show Steps p.tables e below (s₁.setTop (mkF m 8 #[.val (.int p1)] [])) _
            refine XS.iloadN X0.here hx rfl (hb hby own_dmethod_2_8) rfl ?_
            show Steps p.tables e below (s₁.setTop (mkF m 9 #[.val (.int p1)] [(.int p1)])) _
            refine XS.iconst X0.here hx rfl (hb hby own_dmethod_2_9) ?_
            show Steps p.tables e below (s₁.setTop (mkF m 10 #[.val (.int p1)] [(.int (1 : Int32)), (.int p1)])) _
            refine XS.icmpYes X0.here hx rfl (pc0 := 10) (pc' := 17) rfl (hb hby own_dmethod_2_10) rfl (feq k1).2 (by decide) (by decide) ?_
            show Steps p.tables e below (s₁.setTop (mkF m 17 #[.val (.int p1)] [])) _
            refine XS.iloadN X0.here hx rfl (hb hby own_dmethod_2_17) rfl ?_
            show Steps p.tables e below (s₁.setTop (mkF m 18 #[.val (.int p1)] [(.int p1)])) _
            refine XS.iconst X0.here hx rfl (hb hby own_dmethod_2_18) ?_
            show Steps p.tables e below (s₁.setTop (mkF m 19 #[.val (.int p1)] [(.int (2 : Int32)), (.int p1)])) _
            refine XS.icmpYes X0.here hx rfl (pc0 := 19) (pc' := 26) rfl (hb hby own_dmethod_2_19) rfl (feq k2).2 (by decide) (by decide) ?_
            show Steps p.tables e below (s₁.setTop (mkF m 26 #[.val (.int p1)] [])) _
            refine XS.iloadN X0.here hx rfl (hb hby own_dmethod_2_26) rfl ?_
            show Steps p.tables e below (s₁.setTop (mkF m 27 #[.val (.int p1)] [(.int p1)])) _
            refine XS.iconst X0.here hx rfl (hb hby own_dmethod_2_27) ?_
            show Steps p.tables e below (s₁.setTop (mkF m 28 #[.val (.int p1)] [(.int (3 : Int32)), (.int p1)])) _
            refine XS.icmpYes X0.here hx rfl (pc0 := 28) (pc' := 35) rfl (hb hby own_dmethod_2_28) rfl (feq k3).2 (by decide) (by decide) ?_
            show Steps p.tables e below (s₁.setTop (mkF m 35 #[.val (.int p1)] [])) _
            refine st5 _ ?_
            show Steps p.tables e below (T5.setTop (mkF m 38 #[.val (.int p1)] [(.ref s4)])) _
            exact retOut X5 hx Bd.returns rfl (Or.inr (Or.inr (Or.inr (Or.inr ⟨rfl, rfl, rfl⟩)))) (hb hby own_dmethod_2_38) hr
          · show Q_pick Z p1 s0 s1 s2 s3 s4 h0 n0 _ T5.heap _
            rw [e5]
            exact ⟨(by unfold own_pick; rw [if_neg k0, if_neg k1, if_neg k2, if_neg k3]), N0, rfl⟩
theorem own_dprog_87_4_0 : decode prog_87_method_4_code 0 = .ok (.aload_n 0, 1) := by decide +kernel
theorem own_dprog_87_4_1 : decode prog_87_method_4_code 1 = .ok (.getstatic 13, 3) := by decide +kernel
theorem own_dprog_87_4_4 : decode prog_87_method_4_code 4 = .ok (.if_acmp .eq 10, 3) := by decide +kernel
theorem own_dprog_87_4_7 : decode prog_87_method_4_code 7 = .ok (.aload_n 0, 1) := by decide +kernel
theorem own_dprog_87_4_8 : decode prog_87_method_4_code 8 = .ok (.getstatic 16, 3) := by decide +kernel
theorem own_dprog_87_4_11 : decode prog_87_method_4_code 11 = .ok (.if_acmp .ne 7, 3) := by decide +kernel
theorem own_dprog_87_4_14 : decode prog_87_method_4_code 14 = .ok (.iconst 1, 1) := by decide +kernel
theorem own_dprog_87_4_15 : decode prog_87_method_4_code 15 = .ok (.goto 4, 3) := by decide +kernel
theorem own_dprog_87_4_18 : decode prog_87_method_4_code 18 = .ok (.iconst 0, 1) := by decide +kernel
theorem own_dprog_87_4_19 : decode prog_87_method_4_code 19 = .ok (.ireturn, 1) := by decide +kernel
theorem own_pn_com_example_entente_entente_wire_TransactionStatus : plainName "com/example/entente/entente/wire/TransactionStatus" = true := by first | (simp [plainName, overriddenIn]; done) | decide +kernel
theorem own_ef_fin (m : MethodId) (x0 : Addr) : entryFrame m #[(.ref x0)] 1 = mkF m 0 #[.val (.ref x0)] [] := by first | (simp [entryFrame, mkF, argsToLocals, Value.category]; done) | rfl
def Q_fin (Z : State) (a1 : Addr) (s3 : Addr) (s4 : Addr) (h0 : Heap) (n0 : Nat) (v : Option Value) (h : Heap) (L : List Loc) : Prop := v = some (.int (own_fin a1 s3 s4)) ∧ Fr n0 L ∧ h = h0
set_option maxRecDepth 65536 in
set_option maxHeartbeats 40000000 in
theorem rm_fin (l : Launch) (Z : State) (a0 : Array Value) (hw : ∀ d ∈ tables_1, d.before a0 Z = true) (ws : List Jvm.Cond) (a1 : Addr) (s3 : Addr) (s4 : Addr) (h0 : Heap) (n0 : Nat) (Z0 : n0 ≤ h0.size) (S3 : Sta Z h0 "com/example/entente/entente/wire/TransactionStatus" "SUCCEEDED" "Lcom/example/entente/entente/wire/TransactionStatus;" (.ref s3)) (S4 : Sta Z h0 "com/example/entente/entente/wire/TransactionStatus" "FAILED" "Lcom/example/entente/entente/wire/TransactionStatus;" (.ref s4)) :
    MetFree l (⟨"com/example/entente/entente/wire/TransactionStatus", "isFinal", "()Z"⟩ : MethodName) (head1 (Jvm.Cond.code (⟨"com/example/entente/entente/wire/TransactionStatus", "isFinal", "()Z"⟩ : MethodName) prog_87_method_4_code 1 (some .boolean) :: ws) ({ frames := 0, cells := 0, slots := 0, locals := 0 } : Room)) (fun a U => a = #[(.ref a1)] ∧ Z.Warmed39 U.vm ∧ U.heap = h0) (fun _ _ _ _ _ => True) (fun _ U o U' => ∃ v L, o = .returned v ∧ Q_fin Z a1 s3 s4 h0 n0 v U'.heap L ∧ FrameEnd U o U' L ({ frames := 0, cells := 0, slots := 0, locals := 0 } : Room).cells ({ frames := 0, cells := 0, slots := 0, locals := 0 } : Room).slots) := by
  refine MetFree.of_bodySF (plainFor_of_name own_pn_com_example_entente_entente_wire_TransactionStatus) hisR ?_
  intro p e s m args below meth c s₁ Bd hml0 hP hK
  obtain ⟨rfl, hZ, hh⟩ := hP
  have hx := Bd.exec
  have hby := Bd.bytes
  have hml : c.maxLocals = 1 := hml0
  have hown : s.vm.findClass "com/example/entente/entente/wire/TransactionStatus" = some m.cls := findClass_of_methodNamed Bd.named
  have hnm := (name_of_methodNamed Bd.named Bd.method).1
  have X0 : Stand p l e ({ frames := 0, cells := 0, slots := 0, locals := 0 } : Room) s m #[(.ref a1)] below meth c s₁ [] 0 0 := Stand.of_body Bd
  have e0 : s₁.heap = h0 := by rw [← hh, Bd.state]; rfl
  have N0 := Fr.nil n0
  have pre0 : ∀ t, Steps p.tables e below (s₁.setTop (mkF m 0 #[.val (.ref a1)] [])) t → Steps p.tables e below (s₁.setTop (entryFrame m #[(.ref a1)] 1)) t := fun t k => castTop (own_ef_fin m a1) k
  obtain ⟨T1, X1, e1, st1⟩ := getS2 X0 hx hZ hown (host := "") (Or.inl (hw _ (List.mem_of_getElem? (i := 13) rfl))) Via.refl e0 S3 (g := (mkF m 1 #[.val (.ref a1)] [(.ref a1)])) rfl (hb hby own_dprog_87_4_1)
  by_cases q3 : a1 = s3
  · obtain ⟨fs, hr, hrun, hended, hW, hsame⟩ := X1.leave (v := some (.int (1 : Int32))) (fun h => by rw [Bd.returns] at h; cases h)
    refine ⟨_, _, pre0 _ ?_, hrun, hended, _, _, rfl, ?_, ⟨_, rfl⟩, hW, hsame.mono (by decide) (by decide)⟩
    · show Steps p.tables e below (s₁.setTop (mkF m 0 #[.val (.ref a1)] [])) _
      refine XS.aloadN X0.here hx rfl (hb hby own_dprog_87_4_0) rfl rfl ?_
      show Steps p.tables e below (s₁.setTop (mkF m 1 #[.val (.ref a1)] [(.ref a1)])) _
      refine st1 _ ?_
      show Steps p.tables e below (T1.setTop (mkF m 4 #[.val (.ref a1)] [(.ref s3), (.ref a1)])) _
      refine Jvm.RoadKit.acmp (g := (mkF m 4 #[.val (.ref a1)] [(.ref s3), (.ref a1)])) X1 hx rfl rfl rfl (pc0 := 4) (pc' := 14) (same := true) rfl (hb hby own_dprog_87_4_4) rfl (decide_eq_true (congrArg Value.ref q3)) (by decide) (by decide) ?_
      show Steps p.tables e below (T1.setTop (mkF m 14 #[.val (.ref a1)] [])) _
      refine XS.iconst X1.here hx rfl (hb hby own_dprog_87_4_14) ?_
      show Steps p.tables e below (T1.setTop (mkF m 15 #[.val (.ref a1)] [(.int (1 : Int32))])) _
      refine XS.goto X1.here hx rfl (pc0 := 15) (pc' := 19) rfl (hb hby own_dprog_87_4_15) (by decide) (by decide) ?_
      show Steps p.tables e below (T1.setTop (mkF m 19 #[.val (.ref a1)] [(.int (1 : Int32))])) _
      exact retN X1 hx (t := .boolean) Bd.returns (by simp) (hb hby own_dprog_87_4_19) hr
    · show Q_fin Z a1 s3 s4 h0 n0 _ T1.heap _
      rw [e1]
      exact ⟨(by unfold own_fin; rw [if_pos q3]), N0, rfl⟩
  · obtain ⟨T2, X2, e2, st2⟩ := getS2 X1 hx hZ hown (host := "") (Or.inl (hw _ (List.mem_of_getElem? (i := 15) rfl))) Via.refl e1 S4 (g := (mkF m 8 #[.val (.ref a1)] [(.ref a1)])) rfl (hb hby own_dprog_87_4_8)
    by_cases q4 : a1 = s4
    · obtain ⟨fs, hr, hrun, hended, hW, hsame⟩ := X2.leave (v := some (.int (1 : Int32))) (fun h => by rw [Bd.returns] at h; cases h)
      refine ⟨_, _, pre0 _ ?_, hrun, hended, _, _, rfl, ?_, ⟨_, rfl⟩, hW, hsame.mono (by decide) (by decide)⟩
      · show Steps p.tables e below (s₁.setTop (mkF m 0 #[.val (.ref a1)] [])) _
        refine XS.aloadN X0.here hx rfl (hb hby own_dprog_87_4_0) rfl rfl ?_
        show Steps p.tables e below (s₁.setTop (mkF m 1 #[.val (.ref a1)] [(.ref a1)])) _
        refine st1 _ ?_
        show Steps p.tables e below (T1.setTop (mkF m 4 #[.val (.ref a1)] [(.ref s3), (.ref a1)])) _
        refine Jvm.RoadKit.acmp (g := (mkF m 4 #[.val (.ref a1)] [(.ref s3), (.ref a1)])) X1 hx rfl rfl rfl (pc0 := 4) (pc' := 7) (same := false) rfl (hb hby own_dprog_87_4_4) rfl (decide_eq_false fun q => q3 (Value.ref.inj q)) (by decide) (by decide) ?_
        show Steps p.tables e below (T1.setTop (mkF m 7 #[.val (.ref a1)] [])) _
        refine XS.aloadN X1.here hx rfl (hb hby own_dprog_87_4_7) rfl rfl ?_
        show Steps p.tables e below (T1.setTop (mkF m 8 #[.val (.ref a1)] [(.ref a1)])) _
        refine st2 _ ?_
        show Steps p.tables e below (T2.setTop (mkF m 11 #[.val (.ref a1)] [(.ref s4), (.ref a1)])) _
        refine Jvm.RoadKit.acmp (g := (mkF m 11 #[.val (.ref a1)] [(.ref s4), (.ref a1)])) X2 hx rfl rfl rfl (pc0 := 11) (pc' := 14) (same := true) rfl (hb hby own_dprog_87_4_11) rfl (decide_eq_true (congrArg Value.ref q4)) (by decide) (by decide) ?_
        show Steps p.tables e below (T2.setTop (mkF m 14 #[.val (.ref a1)] [])) _
        refine XS.iconst X2.here hx rfl (hb hby own_dprog_87_4_14) ?_
        show Steps p.tables e below (T2.setTop (mkF m 15 #[.val (.ref a1)] [(.int (1 : Int32))])) _
        refine XS.goto X2.here hx rfl (pc0 := 15) (pc' := 19) rfl (hb hby own_dprog_87_4_15) (by decide) (by decide) ?_
        show Steps p.tables e below (T2.setTop (mkF m 19 #[.val (.ref a1)] [(.int (1 : Int32))])) _
        exact retN X2 hx (t := .boolean) Bd.returns (by simp) (hb hby own_dprog_87_4_19) hr
      · show Q_fin Z a1 s3 s4 h0 n0 _ T2.heap _
        rw [e2]
        exact ⟨(by unfold own_fin; rw [if_neg q3, if_pos q4]), N0, rfl⟩
    · obtain ⟨fs, hr, hrun, hended, hW, hsame⟩ := X2.leave (v := some (.int (0 : Int32))) (fun h => by rw [Bd.returns] at h; cases h)
      refine ⟨_, _, pre0 _ ?_, hrun, hended, _, _, rfl, ?_, ⟨_, rfl⟩, hW, hsame.mono (by decide) (by decide)⟩
      · show Steps p.tables e below (s₁.setTop (mkF m 0 #[.val (.ref a1)] [])) _
        refine XS.aloadN X0.here hx rfl (hb hby own_dprog_87_4_0) rfl rfl ?_
        show Steps p.tables e below (s₁.setTop (mkF m 1 #[.val (.ref a1)] [(.ref a1)])) _
        refine st1 _ ?_
        show Steps p.tables e below (T1.setTop (mkF m 4 #[.val (.ref a1)] [(.ref s3), (.ref a1)])) _
        refine Jvm.RoadKit.acmp (g := (mkF m 4 #[.val (.ref a1)] [(.ref s3), (.ref a1)])) X1 hx rfl rfl rfl (pc0 := 4) (pc' := 7) (same := false) rfl (hb hby own_dprog_87_4_4) rfl (decide_eq_false fun q => q3 (Value.ref.inj q)) (by decide) (by decide) ?_
        show Steps p.tables e below (T1.setTop (mkF m 7 #[.val (.ref a1)] [])) _
        refine XS.aloadN X1.here hx rfl (hb hby own_dprog_87_4_7) rfl rfl ?_
        show Steps p.tables e below (T1.setTop (mkF m 8 #[.val (.ref a1)] [(.ref a1)])) _
        refine st2 _ ?_
        show Steps p.tables e below (T2.setTop (mkF m 11 #[.val (.ref a1)] [(.ref s4), (.ref a1)])) _
        refine Jvm.RoadKit.acmp (g := (mkF m 11 #[.val (.ref a1)] [(.ref s4), (.ref a1)])) X2 hx rfl rfl rfl (pc0 := 11) (pc' := 18) (same := false) rfl (hb hby own_dprog_87_4_11) rfl (decide_eq_false fun q => q4 (Value.ref.inj q)) (by decide) (by decide) ?_
        show Steps p.tables e below (T2.setTop (mkF m 18 #[.val (.ref a1)] [])) _
        refine XS.iconst X2.here hx rfl (hb hby own_dprog_87_4_18) ?_
        show Steps p.tables e below (T2.setTop (mkF m 19 #[.val (.ref a1)] [(.int (0 : Int32))])) _
        exact retN X2 hx (t := .boolean) Bd.returns (by simp) (hb hby own_dprog_87_4_19) hr
      · show Q_fin Z a1 s3 s4 h0 n0 _ T2.heap _
        rw [e2]
        exact ⟨(by unfold own_fin; rw [if_neg q3, if_neg q4]), N0, rfl⟩
theorem own_dmethod_3_0 : decode method_3_code 0 = .ok (.iload_n 0, 1) := by decide +kernel
theorem own_dmethod_3_1 : decode method_3_code 1 = .ok (.ifCond .ne 5, 3) := by decide +kernel
theorem own_dmethod_3_4 : decode method_3_code 4 = .ok (.iconst 0, 1) := by decide +kernel
theorem own_dmethod_3_5 : decode method_3_code 5 = .ok (.ireturn, 1) := by decide +kernel
theorem own_dmethod_3_6 : decode method_3_code 6 = .ok (.iload_n 0, 1) := by decide +kernel
theorem own_dmethod_3_7 : decode method_3_code 7 = .ok (.iconst 1, 1) := by decide +kernel
theorem own_dmethod_3_8 : decode method_3_code 8 = .ok (.if_icmp .ne 5, 3) := by decide +kernel
theorem own_dmethod_3_11 : decode method_3_code 11 = .ok (.iconst 0, 1) := by decide +kernel
theorem own_dmethod_3_12 : decode method_3_code 12 = .ok (.ireturn, 1) := by decide +kernel
theorem own_dmethod_3_13 : decode method_3_code 13 = .ok (.iload_n 0, 1) := by decide +kernel
theorem own_dmethod_3_14 : decode method_3_code 14 = .ok (.iconst 2, 1) := by decide +kernel
theorem own_dmethod_3_15 : decode method_3_code 15 = .ok (.if_icmp .ne 5, 3) := by decide +kernel
theorem own_dmethod_3_18 : decode method_3_code 18 = .ok (.iconst 0, 1) := by decide +kernel
theorem own_dmethod_3_19 : decode method_3_code 19 = .ok (.ireturn, 1) := by decide +kernel
theorem own_dmethod_3_20 : decode method_3_code 20 = .ok (.iload_n 0, 1) := by decide +kernel
theorem own_dmethod_3_21 : decode method_3_code 21 = .ok (.iconst 3, 1) := by decide +kernel
theorem own_dmethod_3_22 : decode method_3_code 22 = .ok (.if_icmp .ne 5, 3) := by decide +kernel
theorem own_dmethod_3_25 : decode method_3_code 25 = .ok (.iconst 1, 1) := by decide +kernel
theorem own_dmethod_3_26 : decode method_3_code 26 = .ok (.ireturn, 1) := by decide +kernel
theorem own_dmethod_3_27 : decode method_3_code 27 = .ok (.iconst 1, 1) := by decide +kernel
theorem own_dmethod_3_28 : decode method_3_code 28 = .ok (.ireturn, 1) := by decide +kernel
theorem own_ef_exp (m : MethodId) (x0 : Int32) : entryFrame m #[(.int x0)] 1 = mkF m 0 #[.val (.int x0)] [] := by first | (simp [entryFrame, mkF, argsToLocals, Value.category]; done) | rfl
def Q_exp (Z : State) (p1 : Int32) (h0 : Heap) (n0 : Nat) (v : Option Value) (h : Heap) (L : List Loc) : Prop := v = some (.int (own_exp p1)) ∧ Fr n0 L ∧ h = h0
set_option maxRecDepth 65536 in
set_option maxHeartbeats 40000000 in
theorem rm_exp (l : Launch) (Z : State) (a0 : Array Value) (hw : ∀ d ∈ tables_1, d.before a0 Z = true) (ws : List Jvm.Cond) (p1 : Int32) (h0 : Heap) (n0 : Nat) (Z0 : n0 ≤ h0.size)  :
    MetFree l (⟨"com/example/entente/entente/wire/TransactionStatusIsFinalPinLaw", "expectedFinal", "(I)Z"⟩ : MethodName) (head1 (Jvm.Cond.code (⟨"com/example/entente/entente/wire/TransactionStatusIsFinalPinLaw", "expectedFinal", "(I)Z"⟩ : MethodName) method_3_code 1 (some .boolean) :: ws) ({ frames := 0, cells := 0, slots := 0, locals := 0 } : Room)) (fun a U => a = #[(.int p1)] ∧ Z.Warmed39 U.vm ∧ U.heap = h0) (fun _ _ _ _ _ => True) (fun _ U o U' => ∃ v L, o = .returned v ∧ Q_exp Z p1 h0 n0 v U'.heap L ∧ FrameEnd U o U' L ({ frames := 0, cells := 0, slots := 0, locals := 0 } : Room).cells ({ frames := 0, cells := 0, slots := 0, locals := 0 } : Room).slots) := by
  refine MetFree.of_bodySF (plainFor_of_name own_pn_com_example_entente_entente_wire_TransactionStatusIsFinalPinLaw) hisR ?_
  intro p e s m args below meth c s₁ Bd hml0 hP hK
  obtain ⟨rfl, hZ, hh⟩ := hP
  have hx := Bd.exec
  have hby := Bd.bytes
  have hml : c.maxLocals = 1 := hml0
  have hown : s.vm.findClass "com/example/entente/entente/wire/TransactionStatusIsFinalPinLaw" = some m.cls := findClass_of_methodNamed Bd.named
  have hnm := (name_of_methodNamed Bd.named Bd.method).1
  have X0 : Stand p l e ({ frames := 0, cells := 0, slots := 0, locals := 0 } : Room) s m #[(.int p1)] below meth c s₁ [] 0 0 := Stand.of_body Bd
  have e0 : s₁.heap = h0 := by rw [← hh, Bd.state]; rfl
  have N0 := Fr.nil n0
  have pre0 : ∀ t, Steps p.tables e below (s₁.setTop (mkF m 0 #[.val (.int p1)] [])) t → Steps p.tables e below (s₁.setTop (entryFrame m #[(.int p1)] 1)) t := fun t k => castTop (own_ef_exp m p1) k
  by_cases k0 : p1 = (0 : Int32)
  · obtain ⟨fs, hr, hrun, hended, hW, hsame⟩ := X0.leave (v := some (.int (0 : Int32))) (fun h => by rw [Bd.returns] at h; cases h)
    refine ⟨_, _, pre0 _ ?_, hrun, hended, _, _, rfl, ?_, ⟨_, rfl⟩, hW, hsame.mono (by decide) (by decide)⟩
    · show Steps p.tables e below (s₁.setTop (mkF m 0 #[.val (.int p1)] [])) _
      refine XS.iloadN X0.here hx rfl (hb hby own_dmethod_3_0) rfl ?_
      show Steps p.tables e below (s₁.setTop (mkF m 1 #[.val (.int p1)] [(.int p1)])) _
      refine XS.ifNo X0.here hx rfl (hb hby own_dmethod_3_1) rfl ((if0 _ _).trans (teq k0).2) ?_
      show Steps p.tables e below (s₁.setTop (mkF m 4 #[.val (.int p1)] [])) _
      refine XS.iconst X0.here hx rfl (hb hby own_dmethod_3_4) ?_
      show Steps p.tables e below (s₁.setTop (mkF m 5 #[.val (.int p1)] [(.int (0 : Int32))])) _
      exact retN X0 hx (t := .boolean) Bd.returns (by simp) (hb hby own_dmethod_3_5) hr
    · show Q_exp Z p1 h0 n0 _ s₁.heap _
      rw [e0]
      exact ⟨(by unfold own_exp; rw [if_pos k0]), N0, rfl⟩
  · by_cases k1 : p1 = (1 : Int32)
    · obtain ⟨fs, hr, hrun, hended, hW, hsame⟩ := X0.leave (v := some (.int (0 : Int32))) (fun h => by rw [Bd.returns] at h; cases h)
      refine ⟨_, _, pre0 _ ?_, hrun, hended, _, _, rfl, ?_, ⟨_, rfl⟩, hW, hsame.mono (by decide) (by decide)⟩
      · show Steps p.tables e below (s₁.setTop (mkF m 0 #[.val (.int p1)] [])) _
        refine XS.iloadN X0.here hx rfl (hb hby own_dmethod_3_0) rfl ?_
        show Steps p.tables e below (s₁.setTop (mkF m 1 #[.val (.int p1)] [(.int p1)])) _
        refine XS.ifYes X0.here hx rfl (pc0 := 1) (pc' := 6) rfl (hb hby own_dmethod_3_1) rfl ((if0 _ _).trans (feq k0).2) (by decide) (by decide) ?_
        show Steps p.tables e below (s₁.setTop (mkF m 6 #[.val (.int p1)] [])) _
        refine XS.iloadN X0.here hx rfl (hb hby own_dmethod_3_6) rfl ?_
        show Steps p.tables e below (s₁.setTop (mkF m 7 #[.val (.int p1)] [(.int p1)])) _
        refine XS.iconst X0.here hx rfl (hb hby own_dmethod_3_7) ?_
        show Steps p.tables e below (s₁.setTop (mkF m 8 #[.val (.int p1)] [(.int (1 : Int32)), (.int p1)])) _
        refine XS.icmpNo X0.here hx rfl (hb hby own_dmethod_3_8) rfl (teq k1).2 ?_
        show Steps p.tables e below (s₁.setTop (mkF m 11 #[.val (.int p1)] [])) _
        refine XS.iconst X0.here hx rfl (hb hby own_dmethod_3_11) ?_
        show Steps p.tables e below (s₁.setTop (mkF m 12 #[.val (.int p1)] [(.int (0 : Int32))])) _
        exact retN X0 hx (t := .boolean) Bd.returns (by simp) (hb hby own_dmethod_3_12) hr
      · show Q_exp Z p1 h0 n0 _ s₁.heap _
        rw [e0]
        exact ⟨(by unfold own_exp; rw [if_neg k0, if_pos k1]), N0, rfl⟩
    · by_cases k2 : p1 = (2 : Int32)
      · obtain ⟨fs, hr, hrun, hended, hW, hsame⟩ := X0.leave (v := some (.int (0 : Int32))) (fun h => by rw [Bd.returns] at h; cases h)
        refine ⟨_, _, pre0 _ ?_, hrun, hended, _, _, rfl, ?_, ⟨_, rfl⟩, hW, hsame.mono (by decide) (by decide)⟩
        · show Steps p.tables e below (s₁.setTop (mkF m 0 #[.val (.int p1)] [])) _
          refine XS.iloadN X0.here hx rfl (hb hby own_dmethod_3_0) rfl ?_
          show Steps p.tables e below (s₁.setTop (mkF m 1 #[.val (.int p1)] [(.int p1)])) _
          refine XS.ifYes X0.here hx rfl (pc0 := 1) (pc' := 6) rfl (hb hby own_dmethod_3_1) rfl ((if0 _ _).trans (feq k0).2) (by decide) (by decide) ?_
          show Steps p.tables e below (s₁.setTop (mkF m 6 #[.val (.int p1)] [])) _
          refine XS.iloadN X0.here hx rfl (hb hby own_dmethod_3_6) rfl ?_
          show Steps p.tables e below (s₁.setTop (mkF m 7 #[.val (.int p1)] [(.int p1)])) _
          refine XS.iconst X0.here hx rfl (hb hby own_dmethod_3_7) ?_
          show Steps p.tables e below (s₁.setTop (mkF m 8 #[.val (.int p1)] [(.int (1 : Int32)), (.int p1)])) _
          refine XS.icmpYes X0.here hx rfl (pc0 := 8) (pc' := 13) rfl (hb hby own_dmethod_3_8) rfl (feq k1).2 (by decide) (by decide) ?_
          show Steps p.tables e below (s₁.setTop (mkF m 13 #[.val (.int p1)] [])) _
          refine XS.iloadN X0.here hx rfl (hb hby own_dmethod_3_13) rfl ?_
          show Steps p.tables e below (s₁.setTop (mkF m 14 #[.val (.int p1)] [(.int p1)])) _
          refine XS.iconst X0.here hx rfl (hb hby own_dmethod_3_14) ?_
          show Steps p.tables e below (s₁.setTop (mkF m 15 #[.val (.int p1)] [(.int (2 : Int32)), (.int p1)])) _
          refine XS.icmpNo X0.here hx rfl (hb hby own_dmethod_3_15) rfl (teq k2).2 ?_
          show Steps p.tables e below (s₁.setTop (mkF m 18 #[.val (.int p1)] [])) _
          refine XS.iconst X0.here hx rfl (hb hby own_dmethod_3_18) ?_
          show Steps p.tables e below (s₁.setTop (mkF m 19 #[.val (.int p1)] [(.int (0 : Int32))])) _
          exact retN X0 hx (t := .boolean) Bd.returns (by simp) (hb hby own_dmethod_3_19) hr
        · show Q_exp Z p1 h0 n0 _ s₁.heap _
          rw [e0]
          exact ⟨(by unfold own_exp; rw [if_neg k0, if_neg k1, if_pos k2]), N0, rfl⟩
      · by_cases k3 : p1 = (3 : Int32)
        · obtain ⟨fs, hr, hrun, hended, hW, hsame⟩ := X0.leave (v := some (.int (1 : Int32))) (fun h => by rw [Bd.returns] at h; cases h)
          refine ⟨_, _, pre0 _ ?_, hrun, hended, _, _, rfl, ?_, ⟨_, rfl⟩, hW, hsame.mono (by decide) (by decide)⟩
          · show Steps p.tables e below (s₁.setTop (mkF m 0 #[.val (.int p1)] [])) _
            refine XS.iloadN X0.here hx rfl (hb hby own_dmethod_3_0) rfl ?_
            show Steps p.tables e below (s₁.setTop (mkF m 1 #[.val (.int p1)] [(.int p1)])) _
            refine XS.ifYes X0.here hx rfl (pc0 := 1) (pc' := 6) rfl (hb hby own_dmethod_3_1) rfl ((if0 _ _).trans (feq k0).2) (by decide) (by decide) ?_
            show Steps p.tables e below (s₁.setTop (mkF m 6 #[.val (.int p1)] [])) _
            refine XS.iloadN X0.here hx rfl (hb hby own_dmethod_3_6) rfl ?_
            show Steps p.tables e below (s₁.setTop (mkF m 7 #[.val (.int p1)] [(.int p1)])) _
            refine XS.iconst X0.here hx rfl (hb hby own_dmethod_3_7) ?_
            show Steps p.tables e below (s₁.setTop (mkF m 8 #[.val (.int p1)] [(.int (1 : Int32)), (.int p1)])) _
            refine XS.icmpYes X0.here hx rfl (pc0 := 8) (pc' := 13) rfl (hb hby own_dmethod_3_8) rfl (feq k1).2 (by decide) (by decide) ?_
            show Steps p.tables e below (s₁.setTop (mkF m 13 #[.val (.int p1)] [])) _
            refine XS.iloadN X0.here hx rfl (hb hby own_dmethod_3_13) rfl ?_
            show Steps p.tables e below (s₁.setTop (mkF m 14 #[.val (.int p1)] [(.int p1)])) _
            refine XS.iconst X0.here hx rfl (hb hby own_dmethod_3_14) ?_
            show Steps p.tables e below (s₁.setTop (mkF m 15 #[.val (.int p1)] [(.int (2 : Int32)), (.int p1)])) _
            refine XS.icmpYes X0.here hx rfl (pc0 := 15) (pc' := 20) rfl (hb hby own_dmethod_3_15) rfl (feq k2).2 (by decide) (by decide) ?_
            show Steps p.tables e below (s₁.setTop (mkF m 20 #[.val (.int p1)] [])) _
            refine XS.iloadN X0.here hx rfl (hb hby own_dmethod_3_20) rfl ?_
            show Steps p.tables e below (s₁.setTop (mkF m 21 #[.val (.int p1)] [(.int p1)])) _
            refine XS.iconst X0.here hx rfl (hb hby own_dmethod_3_21) ?_
            show Steps p.tables e below (s₁.setTop (mkF m 22 #[.val (.int p1)] [(.int (3 : Int32)), (.int p1)])) _
            refine XS.icmpNo X0.here hx rfl (hb hby own_dmethod_3_22) rfl (teq k3).2 ?_
            show Steps p.tables e below (s₁.setTop (mkF m 25 #[.val (.int p1)] [])) _
            refine XS.iconst X0.here hx rfl (hb hby own_dmethod_3_25) ?_
            show Steps p.tables e below (s₁.setTop (mkF m 26 #[.val (.int p1)] [(.int (1 : Int32))])) _
            exact retN X0 hx (t := .boolean) Bd.returns (by simp) (hb hby own_dmethod_3_26) hr
          · show Q_exp Z p1 h0 n0 _ s₁.heap _
            rw [e0]
            exact ⟨(by unfold own_exp; rw [if_neg k0, if_neg k1, if_neg k2]), N0, rfl⟩
        · obtain ⟨fs, hr, hrun, hended, hW, hsame⟩ := X0.leave (v := some (.int (1 : Int32))) (fun h => by rw [Bd.returns] at h; cases h)
          refine ⟨_, _, pre0 _ ?_, hrun, hended, _, _, rfl, ?_, ⟨_, rfl⟩, hW, hsame.mono (by decide) (by decide)⟩
          · show Steps p.tables e below (s₁.setTop (mkF m 0 #[.val (.int p1)] [])) _
            refine XS.iloadN X0.here hx rfl (hb hby own_dmethod_3_0) rfl ?_
            show Steps p.tables e below (s₁.setTop (mkF m 1 #[.val (.int p1)] [(.int p1)])) _
            refine XS.ifYes X0.here hx rfl (pc0 := 1) (pc' := 6) rfl (hb hby own_dmethod_3_1) rfl ((if0 _ _).trans (feq k0).2) (by decide) (by decide) ?_
            show Steps p.tables e below (s₁.setTop (mkF m 6 #[.val (.int p1)] [])) _
            refine XS.iloadN X0.here hx rfl (hb hby own_dmethod_3_6) rfl ?_
            show Steps p.tables e below (s₁.setTop (mkF m 7 #[.val (.int p1)] [(.int p1)])) _
            refine XS.iconst X0.here hx rfl (hb hby own_dmethod_3_7) ?_
            show Steps p.tables e below (s₁.setTop (mkF m 8 #[.val (.int p1)] [(.int (1 : Int32)), (.int p1)])) _
            refine XS.icmpYes X0.here hx rfl (pc0 := 8) (pc' := 13) rfl (hb hby own_dmethod_3_8) rfl (feq k1).2 (by decide) (by decide) ?_
            show Steps p.tables e below (s₁.setTop (mkF m 13 #[.val (.int p1)] [])) _
            refine XS.iloadN X0.here hx rfl (hb hby own_dmethod_3_13) rfl ?_
            show Steps p.tables e below (s₁.setTop (mkF m 14 #[.val (.int p1)] [(.int p1)])) _
            refine XS.iconst X0.here hx rfl (hb hby own_dmethod_3_14) ?_
            show Steps p.tables e below (s₁.setTop (mkF m 15 #[.val (.int p1)] [(.int (2 : Int32)), (.int p1)])) _
            refine XS.icmpYes X0.here hx rfl (pc0 := 15) (pc' := 20) rfl (hb hby own_dmethod_3_15) rfl (feq k2).2 (by decide) (by decide) ?_
            show Steps p.tables e below (s₁.setTop (mkF m 20 #[.val (.int p1)] [])) _
            refine XS.iloadN X0.here hx rfl (hb hby own_dmethod_3_20) rfl ?_
            show Steps p.tables e below (s₁.setTop (mkF m 21 #[.val (.int p1)] [(.int p1)])) _
            refine XS.iconst X0.here hx rfl (hb hby own_dmethod_3_21) ?_
            show Steps p.tables e below (s₁.setTop (mkF m 22 #[.val (.int p1)] [(.int (3 : Int32)), (.int p1)])) _
            refine XS.icmpYes X0.here hx rfl (pc0 := 22) (pc' := 27) rfl (hb hby own_dmethod_3_22) rfl (feq k3).2 (by decide) (by decide) ?_
            show Steps p.tables e below (s₁.setTop (mkF m 27 #[.val (.int p1)] [])) _
            refine XS.iconst X0.here hx rfl (hb hby own_dmethod_3_27) ?_
            show Steps p.tables e below (s₁.setTop (mkF m 28 #[.val (.int p1)] [(.int (1 : Int32))])) _
            exact retN X0 hx (t := .boolean) Bd.returns (by simp) (hb hby own_dmethod_3_28) hr
          · show Q_exp Z p1 h0 n0 _ s₁.heap _
            rw [e0]
            exact ⟨(by unfold own_exp; rw [if_neg k0, if_neg k1, if_neg k2]), N0, rfl⟩
theorem own_pd0 : parseMethodDescriptor "(I)Lcom/example/entente/entente/wire/TransactionStatus;" = some ⟨[.int], some (.object "com/example/entente/entente/wire/TransactionStatus")⟩ := by decide +kernel
theorem own_pd1 : parseMethodDescriptor "()Z" = some ⟨[], some .boolean⟩ := by decide +kernel
theorem own_pd2 : parseMethodDescriptor "(I)Z" = some ⟨[.int], some .boolean⟩ := by decide +kernel
theorem own_ef_law (m : MethodId) (x0 : Int32) : entryFrame m #[(.int x0)] maxLocals = mkF m 0 #[.val (.int x0), .unset, .unset] [] := by first | (simp [entryFrame, mkF, argsToLocals, Value.category, maxLocals]; done) | rfl
def Q_law (Z : State) (p1 : Int32) (s0 : Addr) (s1 : Addr) (s2 : Addr) (s3 : Addr) (s4 : Addr) (h0 : Heap) (n0 : Nat) (v : Option Value) (h : Heap) (L : List Loc) : Prop := v = some (.int 1) ∧ Fr n0 L
set_option maxRecDepth 65536 in
set_option maxHeartbeats 40000000 in
theorem rm_law (l : Launch) (Z : State) (a0 : Array Value) (hw : ∀ d ∈ tables_1, d.before a0 Z = true) (ws : List Jvm.Cond) (p1 : Int32) (s0 : Addr) (s1 : Addr) (s2 : Addr) (s3 : Addr) (s4 : Addr) (h0 : Heap) (n0 : Nat) (Z0 : n0 ≤ h0.size) (S0 : Sta Z h0 "com/example/entente/entente/wire/TransactionStatus" "PREPARED" "Lcom/example/entente/entente/wire/TransactionStatus;" (.ref s0)) (S1 : Sta Z h0 "com/example/entente/entente/wire/TransactionStatus" "SUBMITTED" "Lcom/example/entente/entente/wire/TransactionStatus;" (.ref s1)) (S2 : Sta Z h0 "com/example/entente/entente/wire/TransactionStatus" "ABORTING" "Lcom/example/entente/entente/wire/TransactionStatus;" (.ref s2)) (S3 : Sta Z h0 "com/example/entente/entente/wire/TransactionStatus" "SUCCEEDED" "Lcom/example/entente/entente/wire/TransactionStatus;" (.ref s3)) (S4 : Sta Z h0 "com/example/entente/entente/wire/TransactionStatus" "FAILED" "Lcom/example/entente/entente/wire/TransactionStatus;" (.ref s4)) (E : ∀ a, a = s0 ∨ a = s1 ∨ a = s2 ∨ a = s3 ∨ a = s4 → Exa Z h0 a "com/example/entente/entente/wire/TransactionStatus") (h03 : s0 ≠ s3) (h04 : s0 ≠ s4) (h13 : s1 ≠ s3) (h14 : s1 ≠ s4) (h23 : s2 ≠ s3) (h24 : s2 ≠ s4) :
    MetFree l x (head1 (Jvm.Cond.code x code maxLocals ret :: ws) room_1) (fun a U => a = #[(.int p1)] ∧ Z.Warmed39 U.vm ∧ U.heap = h0) (fun _ _ _ _ _ => True) (fun _ U o U' => ∃ v L, o = .returned v ∧ Q_law Z p1 s0 s1 s2 s3 s4 h0 n0 v U'.heap L ∧ FrameEnd U o U' L room_1.cells room_1.slots) := by
  refine MetFree.of_bodySF (plainFor_of_name own_pn_com_example_entente_entente_wire_TransactionStatusIsFinalPinLaw) hisR ?_
  intro p e s m args below meth c s₁ Bd hml0 hP hK
  obtain ⟨rfl, hZ, hh⟩ := hP
  have hx := Bd.exec
  have hby := Bd.bytes
  have hml : c.maxLocals = 3 := hml0
  have hown : s.vm.findClass "com/example/entente/entente/wire/TransactionStatusIsFinalPinLaw" = some m.cls := findClass_of_methodNamed Bd.named
  have hnm := (name_of_methodNamed Bd.named Bd.method).1
  have X0 : Stand p l e room_1 s m #[(.int p1)] below meth c s₁ [] 0 0 := Stand.of_body Bd
  have e0 : s₁.heap = h0 := by rw [← hh, Bd.state]; rfl
  have N0 := Fr.nil n0
  have pre0 : ∀ t, Steps p.tables e below (s₁.setTop (mkF m 0 #[.val (.int p1), .unset, .unset] [])) t → Steps p.tables e below (s₁.setTop (entryFrame m #[(.int p1)] maxLocals)) t := fun t k => castTop (own_ef_law m p1) k
  obtain ⟨k, h_k⟩ : ∃ z : Int32, z = ((p1 &&& (2147483647 : Int32)) % (5 : Int32)) := ⟨_, rfl⟩
  have h_k2 : ((p1 &&& (2147483647 : Int32)) % (5 : Int32)) = k := h_k.symm
  obtain ⟨_, _, ⟨T1, L1, k1, n1⟩, -, X1, ⟨Lc1, hQ1, l1, y1, z1⟩, st1⟩ := Jvm.LawKit.callS X0 hx (y := (⟨"com/example/entente/entente/wire/TransactionStatusIsFinalPinLaw", "pick", "(I)Lcom/example/entente/entente/wire/TransactionStatus;"⟩ : MethodName)) hown (mvT hZ (hw _ (List.mem_of_getElem? (i := 1) rfl))) (mvT hZ (hw _ (List.mem_of_getElem? (i := 2) rfl))) (mvT hZ (hw _ (List.mem_of_getElem? (i := 3) rfl))) (mvT hZ (hw _ (List.mem_of_getElem? (i := 4) rfl))) (by decide) (backOf (W := 0) (rm_pick l Z a0 hw [] k s0 s1 s2 s3 s4 h0 n0 Z0 S0 S1 S2 S3 S4) hZ (hw _ (List.mem_of_getElem? (i := 4) rfl)) (hw _ (List.mem_of_getElem? (i := 3) rfl)) (by decide) (by decide)) (g := (mkF m 8 #[.val (.int p1), .val (.int k), .unset] [(.int k)])) rfl (by rw [hml]; rfl) (argsL := [(.int k)]) (rest := []) (lenOf own_pd0 rfl) rfl (by show 2 * 0 + _ ≤ _; exact Nat.le_of_eq rfl) (hb hby at_8) (fun _ _ => ⟨rfl, e0, (by decide : 0 + 0 ≤ _), (by decide : 0 + 0 ≤ _)⟩)
  dsimp only [Pt.U, Pt.locs, Pt.cells, Pt.slots] at X1 l1 y1 z1 st1 hQ1
  rw [l1, y1, z1] at X1
  obtain ⟨rfl, Nq1, e1⟩ := hQ1
  have N1 := Fr.app N0 Nq1
  obtain ⟨b, h_b⟩ : ∃ z : Addr, z = own_pick k s0 s1 s2 s3 s4 := ⟨_, rfl⟩
  have h_b2 : own_pick k s0 s1 s2 s3 s4 = b := h_b.symm
  have Eb : Exa Z h0 b "com/example/entente/entente/wire/TransactionStatus" := E b (by rw [h_b]; exact own_pick_or k s0 s1 s2 s3 s4)
  have hsame0 := own_same k s0 s1 s2 s3 s4 h03 h04 h13 h14 h23 h24
  rw [h_b2] at hsame0
  obtain ⟨cq2, kq2, q2a, q2b, q2c⟩ := isOf hZ e1 (Eb)
  obtain ⟨_, _, ⟨T2, L2, k2, n2⟩, -, X2, ⟨Lc2, hQ2, l2, y2, z2⟩, st2⟩ := X1.virtualBack hx (y := (⟨"com/example/entente/entente/wire/TransactionStatus", "isFinal", "()Z"⟩ : MethodName)) (z := (⟨"com/example/entente/entente/wire/TransactionStatus", "isFinal", "()Z"⟩ : MethodName)) hown (mvT hZ (hw _ (List.mem_of_getElem? (i := 8) rfl))) (mvT hZ (hw _ (List.mem_of_getElem? (i := 9) rfl))) (notFace_of_selects (args := #[]) (mvT hZ (hw _ (List.mem_of_getElem? (i := 11) rfl)))) (mvT hZ (hw _ (List.mem_of_getElem? (i := 11) rfl))) (mvT hZ (hw _ (List.mem_of_getElem? (i := 10) rfl))) (by decide) (backOf (W := 0) (rm_fin l Z a0 hw [] b s3 s4 h0 n0 Z0 S3 S4) hZ (hw _ (List.mem_of_getElem? (i := 12) rfl)) (hw _ (List.mem_of_getElem? (i := 6) rfl)) (by decide) (by decide)) q2a q2c (g := (mkF m 13 #[.val (.int p1), .val (.int k), .val (.ref b)] [(.ref b)])) rfl (by rw [hml]; rfl) (Steps.refl _) (argsL := []) (rest := []) (lenOf own_pd1 rfl) rfl (by show 2 * 0 + _ ≤ _; exact Nat.le_of_eq rfl) (hb hby at_13) (fun _ _ => ⟨rfl, e1, (by decide : 0 + 0 ≤ _), (by decide : 0 + 0 ≤ _)⟩)
  dsimp only [Pt.U, Pt.locs, Pt.cells, Pt.slots] at X2 l2 y2 z2 st2 hQ2
  rw [l2, y2, z2] at X2
  obtain ⟨rfl, Nq2, e2⟩ := hQ2
  have N2 := Fr.app N1 Nq2
  obtain ⟨_, _, ⟨T3, L3, k3, n3⟩, -, X3, ⟨Lc3, hQ3, l3, y3, z3⟩, st3⟩ := Jvm.LawKit.callS X2 hx (y := (⟨"com/example/entente/entente/wire/TransactionStatusIsFinalPinLaw", "expectedFinal", "(I)Z"⟩ : MethodName)) hown (mvT hZ (hw _ (List.mem_of_getElem? (i := 17) rfl))) (mvT hZ (hw _ (List.mem_of_getElem? (i := 18) rfl))) (mvT hZ (hw _ (List.mem_of_getElem? (i := 3) rfl))) (mvT hZ (hw _ (List.mem_of_getElem? (i := 19) rfl))) (by decide) (backOf (W := 1) (rm_exp l Z a0 hw [] k h0 n0 Z0) hZ (hw _ (List.mem_of_getElem? (i := 19) rfl)) (hw _ (List.mem_of_getElem? (i := 3) rfl)) (by decide) (by decide)) (g := (mkF m 17 #[.val (.int p1), .val (.int k), .val (.ref b)] [(.int k), (.int (own_fin b s3 s4))])) rfl (by rw [hml]; rfl) (argsL := [(.int k)]) (rest := [(.int (own_fin b s3 s4))]) (lenOf own_pd2 rfl) rfl (by show 2 * 0 + _ ≤ _; exact Nat.le_of_eq rfl) (hb hby at_17) (fun _ _ => ⟨rfl, e2, (by decide : 0 + 0 ≤ _), (by decide : 0 + 0 ≤ _)⟩)
  dsimp only [Pt.U, Pt.locs, Pt.cells, Pt.slots] at X3 l3 y3 z3 st3 hQ3
  rw [l3, y3, z3] at X3
  obtain ⟨rfl, Nq3, e3⟩ := hQ3
  have N3 := Fr.app N2 Nq3
  obtain ⟨fs, hr, hrun, hended, hW, hsame⟩ := X3.leave (v := some (.int (1 : Int32))) (fun h => by rw [Bd.returns] at h; cases h)
  refine ⟨_, _, pre0 _ ?_, hrun, hended, _, _, rfl, ?_, ⟨_, rfl⟩, hW, hsame.mono (by decide) (by decide)⟩
  · show Steps p.tables e below (s₁.setTop (mkF m 0 #[.val (.int p1), .unset, .unset] [])) _
    refine XS.iloadN X0.here hx rfl (hb hby at_0) rfl ?_
    show Steps p.tables e below (s₁.setTop (mkF m 1 #[.val (.int p1), .unset, .unset] [(.int p1)])) _
    refine X0.ldcI hx (v := (2147483647 : Int32)) hown (mvT hZ (hw _ (List.mem_of_getElem? (i := 0) rfl))) (g := (mkF m 1 #[.val (.int p1), .unset, .unset] [(.int p1)])) rfl (hb hby at_1) ?_
    show Steps p.tables e below (s₁.setTop (mkF m 3 #[.val (.int p1), .unset, .unset] [(.int (2147483647 : Int32)), (.int p1)])) _
    refine XS.iand X0.here hx rfl (hb hby at_3) rfl ?_
    show Steps p.tables e below (s₁.setTop (mkF m 4 #[.val (.int p1), .unset, .unset] [(.int (p1 &&& (2147483647 : Int32)))])) _
    refine XS.iconst X0.here hx rfl (hb hby at_4) ?_
    show Steps p.tables e below (s₁.setTop (mkF m 5 #[.val (.int p1), .unset, .unset] [(.int (5 : Int32)), (.int (p1 &&& (2147483647 : Int32)))])) _
    refine iremM X0 hx rfl (hb hby at_5) rfl (by decide) ?_
    show Steps p.tables e below (s₁.setTop (mkF m 6 #[.val (.int p1), .unset, .unset] [(.int ((p1 &&& (2147483647 : Int32)) % (5 : Int32)))])) _
    refine XS.istoreN X0.here hx rfl (hb hby at_6) rfl (l' := #[.val (.int p1), .val (.int ((p1 &&& (2147483647 : Int32)) % (5 : Int32))), .unset]) rfl ?_
    show Steps p.tables e below (s₁.setTop (mkF m 7 #[.val (.int p1), .val (.int ((p1 &&& (2147483647 : Int32)) % (5 : Int32))), .unset] [])) _
    refine XS.iloadN X0.here hx rfl (hb hby at_7) rfl ?_
    show Steps p.tables e below (s₁.setTop (mkF m 8 #[.val (.int p1), .val (.int ((p1 &&& (2147483647 : Int32)) % (5 : Int32))), .unset] [(.int ((p1 &&& (2147483647 : Int32)) % (5 : Int32)))])) _
    rw [h_k2]
    show Steps p.tables e below (s₁.setTop (mkF m 8 #[.val (.int p1), .val (.int k), .unset] [(.int k)])) _
    refine st1 _ ?_
    show Steps p.tables e below (T1.setTop (mkF m 11 #[.val (.int p1), .val (.int k), .unset] [(.ref (own_pick k s0 s1 s2 s3 s4))])) _
    rw [h_b2]
    show Steps p.tables e below (T1.setTop (mkF m 11 #[.val (.int p1), .val (.int k), .unset] [(.ref b)])) _
    refine XS.astoreN X1.here hx rfl (hb hby at_11) rfl rfl (l' := #[.val (.int p1), .val (.int k), .val (.ref b)]) rfl ?_
    show Steps p.tables e below (T1.setTop (mkF m 12 #[.val (.int p1), .val (.int k), .val (.ref b)] [])) _
    refine XS.aloadN X1.here hx rfl (hb hby at_12) rfl rfl ?_
    show Steps p.tables e below (T1.setTop (mkF m 13 #[.val (.int p1), .val (.int k), .val (.ref b)] [(.ref b)])) _
    refine st2.trans ?_
    show Steps p.tables e below (T2.setTop (mkF m 16 #[.val (.int p1), .val (.int k), .val (.ref b)] [(.int (own_fin b s3 s4))])) _
    refine XS.iloadN X2.here hx rfl (hb hby at_16) rfl ?_
    show Steps p.tables e below (T2.setTop (mkF m 17 #[.val (.int p1), .val (.int k), .val (.ref b)] [(.int k), (.int (own_fin b s3 s4))])) _
    refine st3 _ ?_
    show Steps p.tables e below (T3.setTop (mkF m 20 #[.val (.int p1), .val (.int k), .val (.ref b)] [(.int (own_exp k)), (.int (own_fin b s3 s4))])) _
    refine XS.icmpNo X3.here hx rfl (hb hby at_20) rfl (teq hsame0).2 ?_
    show Steps p.tables e below (T3.setTop (mkF m 23 #[.val (.int p1), .val (.int k), .val (.ref b)] [])) _
    refine XS.iconst X3.here hx rfl (hb hby at_23) ?_
    show Steps p.tables e below (T3.setTop (mkF m 24 #[.val (.int p1), .val (.int k), .val (.ref b)] [(.int (1 : Int32))])) _
    refine XS.goto X3.here hx rfl (pc0 := 24) (pc' := 28) rfl (hb hby at_24) (by decide) (by decide) ?_
    show Steps p.tables e below (T3.setTop (mkF m 28 #[.val (.int p1), .val (.int k), .val (.ref b)] [(.int (1 : Int32))])) _
    exact retN X3 hx (t := .boolean) Bd.returns (by simp) (hb hby at_28) hr
  · show Q_law Z p1 s0 s1 s2 s3 s4 h0 n0 _ T3.heap _
    rw [e3]
    exact ⟨rfl, N3⟩
set_option maxRecDepth 65536 in
set_option maxHeartbeats 40000000 in
theorem comes_1 {Post : Tables → Env → Array Value → State → Outcome → State → Prop} (hpost : ∀ tb e args s v u, (limb_1_1.after args s (.returned v) u = true ∧ limb_1_2.after args s (.returned v) u = true ∧ True) → FrameEnd s (.returned v) u (Jvm.fieldLocs frame_1_writes args s ++ Jvm.arrayLocs frame_1_arrays args s ++ Jvm.staticLocs frame_1_statics s) 0 0 → Post tb e args s (.returned v) u) :
    ArmFor flags0 classFile x code maxLocals ret World_1 tables_1 room_1 Calls_1 rest_1 Pre_1 Post := by
  intro l hfl _ _ p e ha hc hk s m args below hf hA hF happ hP
  obtain ⟨hcalls, hrest, hpre⟩ := hP
  obtain ⟨-, -, -, hnamed, -, -, -, hat⟩ := (Spec.applies_iff hf).mp happ
  obtain ⟨hg, hn⟩ := and_e (Cond.before_iff.mp (show (Jvm.Cond.and given_1 narrow_1).before args s = true from hpre))
  obtain ⟨hcount, hg0⟩ := and_e hg
  have ga0 := hg0
  obtain ⟨w0, rfl⟩ : ∃ w0 : Value, args = #[w0] := by
    have hs : args.size = 1 := by simpa [Cond.value, given_1] using hcount
    obtain ⟨L⟩ := args
    match L, hs with
    | [w0], _ => exact ⟨w0, rfl⟩
  have hw := fun d (hd : d ∈ tables_1) => atoms_spec (ws := Jvm.Cond.code x code maxLocals ret :: tables_1) hat d (List.mem_cons_of_mem _ hd)
  obtain ⟨i0, ei0⟩ := is_v ga0
  obtain rfl : w0 = (.int i0) := Option.some.inj ei0
  obtain ⟨nx_PREPARED, hn0⟩ := and_e hn
  obtain ⟨nx_SUCCEEDED, hn1⟩ := and_e hn0
  obtain ⟨no_PREPARED, hn2⟩ := and_e hn1
  obtain ⟨no_SUCCEEDED, hn3⟩ := and_e hn2
  obtain ⟨nx_FAILED, hn4⟩ := and_e hn3
  obtain ⟨no_FAILED, hn5⟩ := and_e hn4
  obtain ⟨nx_SUBMITTED, hn6⟩ := and_e hn5
  obtain ⟨no_SUBMITTED, hn7⟩ := and_e hn6
  obtain ⟨nx_ABORTING, hn8⟩ := and_e hn7
  have no_ABORTING := hn8
  obtain ⟨s0, ev0⟩ := exa_v nx_PREPARED
  have S0 := Sta.start ev0 (Or.inr ⟨(hw _ (List.mem_of_getElem? (i := 6) rfl)), (hw _ (List.mem_of_getElem? (i := 7) rfl))⟩)
  have X0 := Exa.start ev0 nx_PREPARED
  have o0 := eqv_i (Term.int_eval (0)) no_PREPARED
  rw [fld_at ev0] at o0
  obtain ⟨s1, ev1⟩ := exa_v nx_SUBMITTED
  have S1 := Sta.start ev1 (Or.inr ⟨(hw _ (List.mem_of_getElem? (i := 6) rfl)), (hw _ (List.mem_of_getElem? (i := 22) rfl))⟩)
  have X1 := Exa.start ev1 nx_SUBMITTED
  have o1 := eqv_i (Term.int_eval (1)) no_SUBMITTED
  rw [fld_at ev1] at o1
  obtain ⟨s2, ev2⟩ := exa_v nx_ABORTING
  have S2 := Sta.start ev2 (Or.inr ⟨(hw _ (List.mem_of_getElem? (i := 6) rfl)), (hw _ (List.mem_of_getElem? (i := 25) rfl))⟩)
  have X2 := Exa.start ev2 nx_ABORTING
  have o2 := eqv_i (Term.int_eval (2)) no_ABORTING
  rw [fld_at ev2] at o2
  obtain ⟨s3, ev3⟩ := exa_v nx_SUCCEEDED
  have S3 := Sta.start ev3 (Or.inr ⟨(hw _ (List.mem_of_getElem? (i := 6) rfl)), (hw _ (List.mem_of_getElem? (i := 14) rfl))⟩)
  have X3 := Exa.start ev3 nx_SUCCEEDED
  have o3 := eqv_i (Term.int_eval (3)) no_SUCCEEDED
  rw [fld_at ev3] at o3
  obtain ⟨s4, ev4⟩ := exa_v nx_FAILED
  have S4 := Sta.start ev4 (Or.inr ⟨(hw _ (List.mem_of_getElem? (i := 6) rfl)), (hw _ (List.mem_of_getElem? (i := 16) rfl))⟩)
  have X4 := Exa.start ev4 nx_FAILED
  have o4 := eqv_i (Term.int_eval (4)) no_FAILED
  rw [fld_at ev4] at o4
  have h03 : s0 ≠ s3 := fun q => by rw [q, o3] at o0; exact absurd (Value.int.inj (Option.some.inj o0)) (by decide)
  have h04 : s0 ≠ s4 := fun q => by rw [q, o4] at o0; exact absurd (Value.int.inj (Option.some.inj o0)) (by decide)
  have h13 : s1 ≠ s3 := fun q => by rw [q, o3] at o1; exact absurd (Value.int.inj (Option.some.inj o1)) (by decide)
  have h14 : s1 ≠ s4 := fun q => by rw [q, o4] at o1; exact absurd (Value.int.inj (Option.some.inj o1)) (by decide)
  have h23 : s2 ≠ s3 := fun q => by rw [q, o3] at o2; exact absurd (Value.int.inj (Option.some.inj o2)) (by decide)
  have h24 : s2 ≠ s4 := fun q => by rw [q, o4] at o2; exact absurd (Value.int.inj (Option.some.inj o2)) (by decide)
  obtain ⟨n, o, h1, h2, h3, _, L, rfl, ⟨rfl, N⟩, hq⟩ := rm_law l s _ hw tables_1 i0 s0 s1 s2 s3 s4 s.heap s.heap.size (Nat.le_refl _) S0 S1 S2 S3 S4 (fun a q => by rcases q with rfl | rfl | rfl | rfl | rfl <;> assumption) h03 h04 h13 h14 h23 h24 p e ha hc hk s m _ below hf ((Spec.applies_iff_loose hf).mp happ).1 ⟨rfl, State.Warmed39.refl s, rfl⟩ trivial
  refine ⟨n, _, h1, h2, h3, hpost _ _ _ _ _ _ ⟨Cond.after_iff.mpr rfl, Cond.after_iff.mpr (eq_i res_at (Term.int_eval (1)) rfl), trivial⟩ ⟨hq.1, hq.2.1, (hq.2.2.sift fun y hy => Or.inr (N y hy)).mono (by decide) (by decide)⟩⟩
theorem main_1_1 : Claimed_1_1 := comes_1 fun _ _ _ _ _ _ h hF => ⟨h.1, hF⟩
theorem main_1_2 : Claimed_1_2 := comes_1 fun _ _ _ _ _ _ h hF => ⟨h.2.1, hF⟩
end Jvm.Pilot.@@N@@
namespace Jvm.Pilot.@@N@@
open Jvm Jvm.ClassFile Sem Op Lib Jvm.Free Jvm.Stand Jvm.Pilot.@@N@@.Jvm.D
/-! MADE BY PROGRAM (witnessworld.py) out of the Statement's table words and the real class files: 12 classes; the members and pool entries that the words name. The judged class is class 1, her method 3. -/
namespace start1
open Jvm.ClassFile
def u (s : String) : CpInfo := .utf8 (stringToUtf16 s)
/-- a pool by its gaps: so many unusable entries, then the entry; so many at the end -/
def gap : Nat → List CpInfo → List CpInfo
  | 0, r => r
  | n + 1, r => .unusable :: gap n r
def poolList (es : List (Nat × CpInfo)) (last : Nat) : List CpInfo := es.foldr (fun e r => gap e.1 (e.2 :: r)) (gap last [])
def pool (es : List (Nat × CpInfo)) (last : Nat) : Array CpInfo := ⟨poolList es last⟩
def fileOf (pool : Array CpInfo) (this : Nat) (attrs : Array Attribute := #[]) (ms : Array MethodInfo := #[]) (fl : Nat := 33) (sup : Nat := 0) (ifs : Array Nat := #[]) (fds : Array FieldInfo := #[]) : ClassFile where
  minorVersion := 0
  majorVersion := 65
  constantPool := pool
  accessFlags := fl
  thisClass := this
  superClass := sup
  interfaces := ifs
  fields := fds
  methods := ms
  attributes := attrs
def plain (name : String) (sup : Option ClassId) : Class where
  name := name
  kind := .ordinary
  loader := none
  accessFlags := 33
  super := sup
  interfaces := #[]
  cf := none
  fields := #[]
  methods := #[]
  instanceTypes := #[]
  staticTypes := #[]
  resolved := #[]
  callSites := []
  init := .initialized
  statics := none
  mirror := none

def pool0 : Array CpInfo := pool [(5, u "<init>"), (0, u "()V"), (1, .class_ 10), (1, u "java/lang/Object")] 113

def k0m0 : Method := { name := "<init>", desc := "()V", sig := { parameters := [], returnType := none }, accessFlags := 1, code := none }
/-- java/lang/Object -/
def k0 : Class := { plain "java/lang/Object" none with
  accessFlags := 33
  interfaces := #[]
  cf := some (fileOf pool0 8 #[] #[{ accessFlags := 1, nameIndex := 5, descriptorIndex := 6, attributes := #[] }] 33 0 #[] #[])
  fields := #[]
  methods := #[k0m0]
  instanceTypes := #[]
  staticTypes := #[]
  resolved := Array.replicate 124 none
  statics := none }

def pool1 : Array CpInfo := pool [(2, .class_ 4), (1, u "java/lang/Object"), (0, u "<init>"), (0, u "()V"), (0, .fieldref 8 9), (0, .class_ 10), (0, .nameAndType 11 12), (0, u "com/example/entente/entente/wire/TransactionStatus"), (0, u "PREPARED"), (0, u "Lcom/example/entente/entente/wire/TransactionStatus;"), (0, .fieldref 8 14), (0, .nameAndType 15 12), (0, u "SUBMITTED"), (0, .fieldref 8 17), (0, .nameAndType 18 12), (0, u "ABORTING"), (0, .fieldref 8 20), (0, .nameAndType 21 12), (0, u "SUCCEEDED"), (0, .fieldref 8 23), (0, .nameAndType 24 12), (0, u "FAILED"), (0, .integer 2147483647), (0, .methodref 27 28), (0, .class_ 29), (0, .nameAndType 30 31), (0, u "com/example/entente/entente/wire/TransactionStatusIsFinalPinLaw"), (0, u "pick"), (0, u "(I)Lcom/example/entente/entente/wire/TransactionStatus;"), (0, .methodref 8 33), (0, .nameAndType 34 35), (0, u "isFinal"), (0, u "()Z"), (0, .methodref 27 37), (0, .nameAndType 38 39), (0, u "expectedFinal"), (0, u "(I)Z"), (3, u "law")] 2

def k1m0 : Method := { name := "<init>", desc := "()V", sig := { parameters := [], returnType := none }, accessFlags := 1, code := none }
def k1c1 : Code := { maxStack := 2, maxLocals := 1, code := method_2_code, exceptionTable := #[], attributes := #[] }
def k1m1 : Method := { name := "pick", desc := "(I)Lcom/example/entente/entente/wire/TransactionStatus;", sig := { parameters := [.int], returnType := some (.object "com/example/entente/entente/wire/TransactionStatus") }, accessFlags := 10, code := some k1c1 }
def k1c2 : Code := { maxStack := 2, maxLocals := 1, code := method_3_code, exceptionTable := #[], attributes := #[] }
def k1m2 : Method := { name := "expectedFinal", desc := "(I)Z", sig := { parameters := [.int], returnType := some .boolean }, accessFlags := 10, code := some k1c2 }
def k1c3 : Code := { maxStack := 2, maxLocals := 3, code := code, exceptionTable := #[], attributes := #[] }
def k1m3 : Method := { name := "law", desc := "(I)Z", sig := { parameters := [.int], returnType := some .boolean }, accessFlags := 9, code := some k1c3 }
/-- com/example/entente/entente/wire/TransactionStatusIsFinalPinLaw -/
def k1 : Class := { plain "com/example/entente/entente/wire/TransactionStatusIsFinalPinLaw" (some 0) with
  accessFlags := 49
  interfaces := #[]
  cf := some (fileOf pool1 27 #[] #[{ accessFlags := 1, nameIndex := 5, descriptorIndex := 6, attributes := #[] }, { accessFlags := 10, nameIndex := 30, descriptorIndex := 31, attributes := #[] }, { accessFlags := 10, nameIndex := 38, descriptorIndex := 39, attributes := #[] }, { accessFlags := 9, nameIndex := 43, descriptorIndex := 39, attributes := #[] }] 49 2 #[] #[])
  fields := #[]
  methods := #[k1m0, k1m1, k1m2, k1m3]
  instanceTypes := #[]
  staticTypes := #[]
  resolved := Array.replicate 46 none
  statics := none }

def pool2 : Array CpInfo := pool [(1, .class_ 2), (0, u "java/lang/constant/Constable"), (0, .class_ 4), (0, u "java/lang/Object")] 6

/-- java/lang/constant/Constable -/
def k2 : Class := { plain "java/lang/constant/Constable" (some 0) with
  accessFlags := 1537
  interfaces := #[]
  cf := some (fileOf pool2 1 #[] #[] 1537 3 #[] #[])
  fields := #[]
  methods := #[]
  instanceTypes := #[]
  staticTypes := #[]
  resolved := Array.replicate 11 none
  statics := none }

def pool3 : Array CpInfo := pool [(1, .class_ 2), (0, u "java/lang/Comparable"), (0, .class_ 4), (0, u "java/lang/Object")] 7

/-- java/lang/Comparable -/
def k3 : Class := { plain "java/lang/Comparable" (some 0) with
  accessFlags := 1537
  interfaces := #[]
  cf := some (fileOf pool3 1 #[] #[] 1537 3 #[] #[])
  fields := #[]
  methods := #[]
  instanceTypes := #[]
  staticTypes := #[]
  resolved := Array.replicate 12 none
  statics := none }

def pool4 : Array CpInfo := pool [(1, .class_ 2), (0, u "java/io/Serializable"), (0, .class_ 4), (0, u "java/lang/Object")] 2

/-- java/io/Serializable -/
def k4 : Class := { plain "java/io/Serializable" (some 0) with
  accessFlags := 1537
  interfaces := #[]
  cf := some (fileOf pool4 1 #[] #[] 1537 3 #[] #[])
  fields := #[]
  methods := #[]
  instanceTypes := #[]
  staticTypes := #[]
  resolved := Array.replicate 7 none
  statics := none }

def pool5 : Array CpInfo := pool [(2, .class_ 4), (1, u "java/lang/Enum"), (0, u "name"), (0, u "Ljava/lang/String;"), (2, u "ordinal"), (0, u "I"), (1, .class_ 14), (1, u "java/lang/Object"), (4, u "hash"), (86, .class_ 108), (1, u "java/lang/Enum$EnumDesc"), (2, .class_ 112), (0, u "java/lang/constant/Constable"), (0, .class_ 114), (0, u "java/lang/Comparable"), (0, .class_ 116), (0, u "java/io/Serializable")] 87

/-- java/lang/Enum -/
def k5 : Class := { plain "java/lang/Enum" (some 0) with
  accessFlags := 1057
  interfaces := #[2, 3, 4]
  cf := some (fileOf pool5 2 #[.nestMembers #[106]] #[] 1057 12 #[111, 113, 115] #[{ accessFlags := 18, nameIndex := 5, descriptorIndex := 6, attributes := #[] }, { accessFlags := 18, nameIndex := 9, descriptorIndex := 10, attributes := #[] }, { accessFlags := 2, nameIndex := 19, descriptorIndex := 10, attributes := #[] }])
  fields := #[{ name := "name", type := (.object "java/lang/String"), accessFlags := 18, slot := 0, constantValue := 0 }, { name := "ordinal", type := .int, accessFlags := 18, slot := 1, constantValue := 0 }, { name := "hash", type := .int, accessFlags := 2, slot := 2, constantValue := 0 }]
  methods := #[]
  instanceTypes := #[(.object "java/lang/String"), .int, .int]
  staticTypes := #[]
  resolved := Array.replicate 204 none
  statics := none }

def pool6 : Array CpInfo := pool [(1, .class_ 2), (0, u "com/example/entente/entente/wire/TransactionStatus"), (2, u "PREPARED"), (0, u "Lcom/example/entente/entente/wire/TransactionStatus;"), (2, u "SUBMITTED"), (2, u "ABORTING"), (0, .fieldref 1 14), (0, .nameAndType 15 6), (0, u "SUCCEEDED"), (0, .fieldref 1 17), (0, .nameAndType 18 6), (0, u "FAILED"), (2, u "$VALUES"), (0, u "[Lcom/example/entente/entente/wire/TransactionStatus;"), (6, .class_ 31), (1, u "java/lang/Enum"), (23, u "isFinal"), (0, u "()Z")] 5

def k6c0 : Code := { maxStack := 2, maxLocals := 1, code := prog_87_method_4_code, exceptionTable := #[], attributes := #[] }
def k6m0 : Method := { name := "isFinal", desc := "()Z", sig := { parameters := [], returnType := some .boolean }, accessFlags := 1, code := some k6c0 }
/-- com/example/entente/entente/wire/TransactionStatus -/
def k6 : Class := { plain "com/example/entente/entente/wire/TransactionStatus" (some 5) with
  accessFlags := 16433
  interfaces := #[]
  cf := some (fileOf pool6 1 #[] #[{ accessFlags := 1, nameIndex := 55, descriptorIndex := 56, attributes := #[] }] 16433 29 #[] #[{ accessFlags := 16409, nameIndex := 5, descriptorIndex := 6, attributes := #[] }, { accessFlags := 16409, nameIndex := 9, descriptorIndex := 6, attributes := #[] }, { accessFlags := 16409, nameIndex := 12, descriptorIndex := 6, attributes := #[] }, { accessFlags := 16409, nameIndex := 15, descriptorIndex := 6, attributes := #[] }, { accessFlags := 16409, nameIndex := 18, descriptorIndex := 6, attributes := #[] }, { accessFlags := 4122, nameIndex := 21, descriptorIndex := 22, attributes := #[] }])
  fields := #[{ name := "PREPARED", type := (.object "com/example/entente/entente/wire/TransactionStatus"), accessFlags := 16409, slot := 0, constantValue := 0 }, { name := "SUBMITTED", type := (.object "com/example/entente/entente/wire/TransactionStatus"), accessFlags := 16409, slot := 1, constantValue := 0 }, { name := "ABORTING", type := (.object "com/example/entente/entente/wire/TransactionStatus"), accessFlags := 16409, slot := 2, constantValue := 0 }, { name := "SUCCEEDED", type := (.object "com/example/entente/entente/wire/TransactionStatus"), accessFlags := 16409, slot := 3, constantValue := 0 }, { name := "FAILED", type := (.object "com/example/entente/entente/wire/TransactionStatus"), accessFlags := 16409, slot := 4, constantValue := 0 }, { name := "$VALUES", type := (.array (.object "com/example/entente/entente/wire/TransactionStatus")), accessFlags := 4122, slot := 5, constantValue := 0 }]
  methods := #[k6m0]
  instanceTypes := #[(.object "java/lang/String"), .int, .int]
  staticTypes := #[(.object "com/example/entente/entente/wire/TransactionStatus"), (.object "com/example/entente/entente/wire/TransactionStatus"), (.object "com/example/entente/entente/wire/TransactionStatus"), (.object "com/example/entente/entente/wire/TransactionStatus"), (.object "com/example/entente/entente/wire/TransactionStatus"), (.array (.object "com/example/entente/entente/wire/TransactionStatus"))]
  resolved := Array.replicate 62 none
  statics := some 0 }

def pool7 : Array CpInfo := pool [(1, u "java/lang/Cloneable"), (0, .class_ 1), (0, u "java/lang/Object"), (0, .class_ 3)] 3

/-- java/lang/Cloneable -/
def k7 : Class := { plain "java/lang/Cloneable" (some 0) with
  accessFlags := 1537
  interfaces := #[]
  cf := some (fileOf pool7 2 #[] #[] 1537 4 #[] #[])
  fields := #[]
  methods := #[]
  instanceTypes := #[]
  staticTypes := #[]
  resolved := Array.replicate 8 none
  statics := none }

/-- the primitive byte -/
def k8 : Class := { plain "byte" none with kind := .primitive 'B', accessFlags := 0x411 }
/-- [B -/
def k9 : Class := { plain "[B" (some 0) with kind := .array 8 .byte, interfaces := #[7, 4], accessFlags := 1041 }

/-- the primitive int -/
def k10 : Class := { plain "int" none with kind := .primitive 'I', accessFlags := 0x411 }
/-- [I -/
def k11 : Class := { plain "[I" (some 0) with kind := .array 10 .int, interfaces := #[7, 4], accessFlags := 1041 }

def heap : Heap := #[{ cls := 6, slots := #[.ref 1, .ref 2, .ref 3, .ref 4, .ref 5, .null], vm := .statics 6 },
  { cls := 6, slots := #[.null, .int 0, .int 0], vm := .none },
  { cls := 6, slots := #[.null, .int 1, .int 0], vm := .none },
  { cls := 6, slots := #[.null, .int 2, .int 0], vm := .none },
  { cls := 6, slots := #[.null, .int 3, .int 0], vm := .none },
  { cls := 6, slots := #[.null, .int 4, .int 0], vm := .none }]
def classes : Array Class := #[k0, k1, k2, k3, k4, k5, k6, k7, k8, k9, k10, k11]
def interned : List (Array UInt16 × Addr) := []
def slotsUsed : Nat := 21
def theMethod : MethodId := ⟨1, 3⟩
def args0 : Array Value := #[.int 5]
def aboutOver (below : List Frame) : State where
  vm := { classes := classes, interned := interned.toArray }
  heap := heap
  slotsUsed := slotsUsed
  threads := #[{ frames := .invoking theMethod args0 :: below }]
def below0 : List Frame := [.native { method := ⟨0, 0⟩, args := #[] }]
def about1 : State := aboutOver below0
def p0 : Program := .bare "" "" ""
def e0 : Env := launch0.env 0 0 0
theorem w_frames : about1.frames = Frame.invoking theMethod args0 :: below0 := rfl
set_option maxRecDepth 65536 in
theorem w_args : argsFit about1.vm theMethod args0 = true := by decide +kernel
set_option maxRecDepth 65536 in
theorem w_heap : heapFits about1 = true := by decide +kernel
set_option maxRecDepth 65536 in
theorem w_runnable : about1.curStatus? = some .runnable := by decide +kernel
set_option maxRecDepth 65536 in
theorem w_alone : about1.alone = true := by decide +kernel
set_option maxRecDepth 65536 in
theorem w_named : about1.methodNamed? x = some theMethod := by decide +kernel
set_option maxRecDepth 65536 in
theorem w_hears : about1.hears theMethod below0 = true := by decide +kernel
set_option maxRecDepth 65536 in
theorem w_ripe : about1.ripe theMethod args0 below0 = true := by decide +kernel
theorem w_running : about1.status = .running := rfl
set_option maxRecDepth 65536 in
theorem w_room : about1.hasRoom e0.platform room_1 = true :=
  launch0.hasRoom_least _ room_1 (by decide +kernel) (by decide +kernel) (by decide +kernel) (by decide +kernel) (by decide +kernel) (by decide +kernel)
theorem allAtoms_all (ts : List Jvm.Cond) (a : Array Jvm.Value) (st : Jvm.State) : (allAtoms ts).before a st = ts.all (fun c => c.before a st) := by
  induction ts with
  | nil => rfl
  | cons c t ih =>
    show (Jvm.Cond.and c (allAtoms t)).before a st = _
    rw [Jvm.Cond.before_and, ih, List.all_cons]
def words1 : List Jvm.Cond := Jvm.Cond.code x code maxLocals ret :: tables_1
/-- a 'code' word, met by the world's own term for the bytes: nothing is compared byte by byte -/
theorem code_word {y : MethodName} {bytes : ByteArray} {mx : Nat} {rt : Option FieldType} {a : Array Value} {s : State} {m : MethodId} {meth : Method} {c : Code} (h1 : s.methodNamed? y = some m) (h2 : s.vm.method? m = some meth) (h3 : meth.code = some c) (h4 : c.code = bytes)
    (h5 : (c.maxLocals == mx && c.exceptionTable.isEmpty && decide (c.maxStack ≤ mostOperands) && decide (meth.sig.returnType = rt) && !meth.locks && decide (parseMethodDescriptor y.desc = some meth.sig)) = true) : (Jvm.Cond.code y bytes mx rt).before a s = true := by
  simp only [Bool.and_eq_true, beq_iff_eq, Bool.not_eq_true', decide_eq_true_eq] at h5
  obtain ⟨⟨⟨⟨⟨g1, g2⟩, g3⟩, g4⟩, g5⟩, g6⟩ := h5
  simp [Cond.before, Cond.holds, Cond.value, h1, h2, h3, h4, g1, g2, g3, g4, g5, g6]
def isCode : Jvm.Cond → Bool
  | .code _ _ _ _ => true
  | _ => false
theorem all_split {L : List Jvm.Cond} {P : Jvm.Cond → Bool} (h1 : L.all (fun c => isCode c || P c) = true) (h2 : ∀ c ∈ L.filter isCode, P c = true) : L.all P = true := by
  refine List.all_eq_true.mpr fun c hc => ?_
  have h := List.all_eq_true.mp h1 c hc
  rcases Bool.eq_false_or_eq_true (isCode c) with hi | hi
  · exact h2 c (List.mem_filter.mpr ⟨hc, hi⟩)
  · simpa [hi] using h
set_option maxRecDepth 65536 in
theorem w_c0 : (Jvm.Cond.code x code maxLocals ret).before args0 about1 = true := code_word (m := ⟨1, 3⟩) (meth := k1m3) (c := k1c3) (by decide +kernel) rfl rfl rfl (by decide +kernel)
set_option maxRecDepth 65536 in
theorem w_c1 : (Jvm.Cond.code ({ cls := "com/example/entente/entente/wire/TransactionStatusIsFinalPinLaw", name := "pick", desc := "(I)Lcom/example/entente/entente/wire/TransactionStatus;" } : Jvm.MethodName) method_2_code (1 : Nat) (Option.some (Jvm.ClassFile.FieldType.object "com/example/entente/entente/wire/TransactionStatus"))).before args0 about1 = true := code_word (m := ⟨1, 1⟩) (meth := k1m1) (c := k1c1) (by decide +kernel) rfl rfl rfl (by decide +kernel)
set_option maxRecDepth 65536 in
theorem w_c2 : (Jvm.Cond.code ({ cls := "com/example/entente/entente/wire/TransactionStatus", name := "isFinal", desc := "()Z" } : Jvm.MethodName) prog_87_method_4_code (1 : Nat) (Option.some Jvm.ClassFile.FieldType.boolean)).before args0 about1 = true := code_word (m := ⟨6, 0⟩) (meth := k6m0) (c := k6c0) (by decide +kernel) rfl rfl rfl (by decide +kernel)
set_option maxRecDepth 65536 in
theorem w_c3 : (Jvm.Cond.code ({ cls := "com/example/entente/entente/wire/TransactionStatusIsFinalPinLaw", name := "expectedFinal", desc := "(I)Z" } : Jvm.MethodName) method_3_code (1 : Nat) (Option.some Jvm.ClassFile.FieldType.boolean)).before args0 about1 = true := code_word (m := ⟨1, 2⟩) (meth := k1m2) (c := k1c2) (by decide +kernel) rfl rfl rfl (by decide +kernel)
def codes1 : List Jvm.Cond := [Jvm.Cond.code x code maxLocals ret, Jvm.Cond.code ({ cls := "com/example/entente/entente/wire/TransactionStatusIsFinalPinLaw", name := "pick", desc := "(I)Lcom/example/entente/entente/wire/TransactionStatus;" } : Jvm.MethodName) method_2_code (1 : Nat) (Option.some (Jvm.ClassFile.FieldType.object "com/example/entente/entente/wire/TransactionStatus")), Jvm.Cond.code ({ cls := "com/example/entente/entente/wire/TransactionStatus", name := "isFinal", desc := "()Z" } : Jvm.MethodName) prog_87_method_4_code (1 : Nat) (Option.some Jvm.ClassFile.FieldType.boolean), Jvm.Cond.code ({ cls := "com/example/entente/entente/wire/TransactionStatusIsFinalPinLaw", name := "expectedFinal", desc := "(I)Z" } : Jvm.MethodName) method_3_code (1 : Nat) (Option.some Jvm.ClassFile.FieldType.boolean)]
set_option maxRecDepth 65536 in
theorem codes_eq : words1.filter isCode = codes1 := rfl
theorem w_codes : ∀ c ∈ words1.filter isCode, c.before args0 about1 = true := by
  rw [codes_eq]
  intro c hc
  simp only [codes1, List.mem_cons, List.not_mem_nil, or_false] at hc
  rcases hc with rfl | rfl | rfl | rfl
  · exact w_c0
  · exact w_c1
  · exact w_c2
  · exact w_c3
set_option maxRecDepth 65536 in
theorem w_t1 : (words1.take 24).all (fun c => isCode c || c.before args0 about1) = true := by decide +kernel
set_option maxRecDepth 65536 in
theorem w_t2 : (words1.drop 24).all (fun c => isCode c || c.before args0 about1) = true := by decide +kernel
theorem w_tables : (allAtoms (Jvm.Cond.code x code maxLocals ret :: tables_1)).before args0 about1 = true := by
  rw [allAtoms_all]
  show words1.all (fun c => c.before args0 about1) = true
  refine all_split ?_ w_codes
  rw [← List.take_append_drop 24 words1, List.all_append, w_t1, w_t2]
  rfl
set_option maxRecDepth 65536 in
theorem w_case : (Jvm.Cond.and given_1 narrow_1).before args0 about1 = true := by decide +kernel
theorem w_applies : (headSpec (Jvm.Cond.code x code maxLocals ret :: tables_1) room_1).applies x e0.platform about1 = true :=
  (Spec.applies_iff w_frames).mpr ⟨w_running, w_runnable, w_alone, w_named, w_hears, w_ripe, w_room, w_tables⟩
theorem atStart : AtStart classFile x code maxLocals ret World_1 tables_1 room_1 Calls_1 rest_1 Pre_1 launch0 p0 e0 about1 theMethod args0 below0 :=
  ⟨lists_1, trivial, launch0.admits_env _ _ _, launch0.least_env, fairChoices_fair.cas, fairChoices_fair.clock, w_frames, w_args, w_heap, w_applies, trivial, trivial, w_case⟩
end start1
theorem witness_1 : WitnessClaimed_1 := ⟨start1.p0, start1.e0, start1.about1, start1.theMethod, start1.args0, start1.below0, start1.atStart⟩
end Jvm.Pilot.@@N@@
