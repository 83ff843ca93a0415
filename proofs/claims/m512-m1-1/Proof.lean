import JvmDerived
import JvmDerived.Pilot.@@N@@Statement
import JvmDerived.Pilot.@@N@@Code
set_option linter.unusedVariables false
set_option linter.unusedSimpArgs false
namespace Jvm.Pilot.@@N@@
open Jvm Jvm.ClassFile Sem Op Lib Jvm.Free Jvm.Stand Jvm.LawKit Jvm.RoadKit Bundle Jvm.Pilot.@@N@@.Jvm.D
def own_of (k : Int32) (m n c u : Addr) : Addr := if k = (400 : Int32) then m else if k = (404 : Int32) then n else if k = (409 : Int32) then c else u
theorem own_miss (k : Int32) (h1 : ¬ k = (400 : Int32)) (h2 : ¬ k = (404 : Int32)) (h3 : ¬ k = (409 : Int32)) : (#[((400 : Int), (35 : Int)), (404, 41), (409, 47)]).find? (·.1 == k.toInt) = none := by
  refine find_miss fun p hp => ?_
  simp only [List.mem_cons, List.not_mem_nil, or_false] at hp
  rcases hp with rfl | rfl | rfl
  · exact fun q => h1 (Int32.toInt_inj.mp (q.symm.trans (by decide)))
  · exact fun q => h2 (Int32.toInt_inj.mp (q.symm.trans (by decide)))
  · exact fun q => h3 (Int32.toInt_inj.mp (q.symm.trans (by decide)))
theorem own_sub (k : Int32) (h1 : ¬ k < (400 : Int32)) (h2 : ¬ (409 : Int32) < k) (j : Int32) (hj : 0 ≤ j.toInt ∧ j.toInt < 100) : (k - (400 : Int32) = j) ↔ k = (400 : Int32) + j := by
  have a1 := c_isub k (400 : Int32)
  have a2 := rng32 (k - (400 : Int32))
  have a3 := c_iadd (400 : Int32) j
  have a4 := rng32 ((400 : Int32) + j)
  have e1 : (400 : Int32).toInt = 400 := by decide
  have e2 : (409 : Int32).toInt = 409 := by decide
  simp only [Int32.lt_iff_toInt_lt, e1, e2] at h1 h2
  rw [e1] at a1 a3
  rw [← Int32.toInt_inj, ← Int32.toInt_inj]
  omega
theorem own_exp (k : Int32) (m n c u : Addr) : own_of k m n c u = (if k < (400 : Int32) then u else if (409 : Int32) < k then u else if k - (400 : Int32) = (0 : Int32) then m else if k - (400 : Int32) = (4 : Int32) then n else if k - (400 : Int32) = (9 : Int32) then c else u) := by
  by_cases h1 : k < (400 : Int32)
  · rw [if_pos h1]; unfold own_of
    rw [if_neg (fun q => by rw [q] at h1; exact absurd h1 (by decide)), if_neg (fun q => by rw [q] at h1; exact absurd h1 (by decide)), if_neg (fun q => by rw [q] at h1; exact absurd h1 (by decide))]
  · rw [if_neg h1]
    by_cases h2 : (409 : Int32) < k
    · rw [if_pos h2]; unfold own_of
      rw [if_neg (fun q => by rw [q] at h2; exact absurd h2 (by decide)), if_neg (fun q => by rw [q] at h2; exact absurd h2 (by decide)), if_neg (fun q => by rw [q] at h2; exact absurd h2 (by decide))]
    · rw [if_neg h2]; unfold own_of
      have b0 := own_sub k h1 h2 0 (by decide)
      have b4 := own_sub k h1 h2 4 (by decide)
      have b9 := own_sub k h1 h2 9 (by decide)
      rw [show (400 : Int32) + 0 = 400 from by decide] at b0
      rw [show (400 : Int32) + 4 = 404 from by decide] at b4
      rw [show (400 : Int32) + 9 = 409 from by decide] at b9
      simp only [b0, b4, b9]
theorem own_dprog_3_5_0 : decode prog_3_method_5_code 0 = .ok (.iload_n 0, 1) := by decide +kernel
theorem own_dprog_3_5_1 : decode prog_3_method_5_code 1 = .ok (.lookupswitch 53 #[(400, 35), (404, 41), (409, 47)], 35) := by decide +kernel
theorem own_dprog_3_5_36 : decode prog_3_method_5_code 36 = .ok (.getstatic 7, 3) := by decide +kernel
theorem own_dprog_3_5_39 : decode prog_3_method_5_code 39 = .ok (.goto 18, 3) := by decide +kernel
theorem own_dprog_3_5_42 : decode prog_3_method_5_code 42 = .ok (.getstatic 10, 3) := by decide +kernel
theorem own_dprog_3_5_45 : decode prog_3_method_5_code 45 = .ok (.goto 12, 3) := by decide +kernel
theorem own_dprog_3_5_48 : decode prog_3_method_5_code 48 = .ok (.getstatic 13, 3) := by decide +kernel
theorem own_dprog_3_5_51 : decode prog_3_method_5_code 51 = .ok (.goto 6, 3) := by decide +kernel
theorem own_dprog_3_5_54 : decode prog_3_method_5_code 54 = .ok (.getstatic 16, 3) := by decide +kernel
theorem own_dprog_3_5_57 : decode prog_3_method_5_code 57 = .ok (.areturn, 1) := by decide +kernel
theorem own_pn_com_example_entente_entente_client_CoordinatorException_Reason : plainName "com/example/entente/entente/client/CoordinatorException$Reason" = true := by first | (simp [plainName, overriddenIn]; done) | decide +kernel
theorem own_ef_of (m : MethodId) (x0 : Int32) : entryFrame m #[(.int x0)] 1 = mkF m 0 #[.val (.int x0)] [] := by first | (simp [entryFrame, mkF, argsToLocals, Value.category]; done) | rfl
def Q_of (Z : State) (p1 : Int32) (am : Addr) (an : Addr) (ac : Addr) (au : Addr) (h0 : Heap) (n0 : Nat) (v : Option Value) (h : Heap) (L : List Loc) : Prop := v = some (.ref (own_of p1 am an ac au)) ∧ Fr n0 L ∧ h = h0
set_option maxRecDepth 65536 in
set_option maxHeartbeats 40000000 in
theorem rm_of (l : Launch) (Z : State) (a0 : Array Value) (hw : ∀ d ∈ tables_1, d.before a0 Z = true) (ws : List Jvm.Cond) (p1 : Int32) (am : Addr) (an : Addr) (ac : Addr) (au : Addr) (h0 : Heap) (n0 : Nat) (Z0 : n0 ≤ h0.size) (Sm : Sta Z h0 "com/example/entente/entente/client/CoordinatorException$Reason" "MALFORMED" "Lcom/example/entente/entente/client/CoordinatorException$Reason;" (.ref am)) (Sn : Sta Z h0 "com/example/entente/entente/client/CoordinatorException$Reason" "NOT_FOUND" "Lcom/example/entente/entente/client/CoordinatorException$Reason;" (.ref an)) (Sc : Sta Z h0 "com/example/entente/entente/client/CoordinatorException$Reason" "CONFLICT" "Lcom/example/entente/entente/client/CoordinatorException$Reason;" (.ref ac)) (Su : Sta Z h0 "com/example/entente/entente/client/CoordinatorException$Reason" "UNEXPECTED" "Lcom/example/entente/entente/client/CoordinatorException$Reason;" (.ref au)) :
    MetFree l (⟨"com/example/entente/entente/client/CoordinatorException$Reason", "ofStatus", "(I)Lcom/example/entente/entente/client/CoordinatorException$Reason;"⟩ : MethodName) (head1 (Jvm.Cond.code (⟨"com/example/entente/entente/client/CoordinatorException$Reason", "ofStatus", "(I)Lcom/example/entente/entente/client/CoordinatorException$Reason;"⟩ : MethodName) prog_3_method_5_code 1 (some (.object "com/example/entente/entente/client/CoordinatorException$Reason")) :: ws) ({ frames := 0, cells := 0, slots := 0, locals := 0 } : Room)) (fun a U => a = #[(.int p1)] ∧ Z.Warmed39 U.vm ∧ U.heap = h0) (fun _ _ _ _ _ => True) (fun _ U o U' => ∃ v L, o = .returned v ∧ Q_of Z p1 am an ac au h0 n0 v U'.heap L ∧ FrameEnd U o U' L ({ frames := 0, cells := 0, slots := 0, locals := 0 } : Room).cells ({ frames := 0, cells := 0, slots := 0, locals := 0 } : Room).slots) := by
  refine MetFree.of_bodySF (plainFor_of_name own_pn_com_example_entente_entente_client_CoordinatorException_Reason) hisR ?_
  intro p e s m args below meth c s₁ Bd hml0 hP hK
  obtain ⟨rfl, hZ, hh⟩ := hP
  have hx := Bd.exec
  have hby := Bd.bytes
  have hml : c.maxLocals = 1 := hml0
  have hown : s.vm.findClass "com/example/entente/entente/client/CoordinatorException$Reason" = some m.cls := findClass_of_methodNamed Bd.named
  have hnm := (name_of_methodNamed Bd.named Bd.method).1
  have X0 : Stand p l e ({ frames := 0, cells := 0, slots := 0, locals := 0 } : Room) s m #[(.int p1)] below meth c s₁ [] 0 0 := Stand.of_body Bd
  have e0 : s₁.heap = h0 := by rw [← hh, Bd.state]; rfl
  have N0 := Fr.nil n0
  have pre0 : ∀ t, Steps p.tables e below (s₁.setTop (mkF m 0 #[.val (.int p1)] [])) t → Steps p.tables e below (s₁.setTop (entryFrame m #[(.int p1)] 1)) t := fun t k => castTop (own_ef_of m p1) k
  by_cases km : p1 = (400 : Int32)
  · obtain ⟨T1, X1, e1, st1⟩ := getS2 X0 hx hZ hown (host := "") (Or.inl (hw _ (List.mem_of_getElem? (i := 16) rfl))) Via.refl e0 Sm (g := (mkF m 36 #[.val (.int p1)] [])) rfl (hb hby own_dprog_3_5_36)
    obtain ⟨fs, hr, hrun, hended, hW, hsame⟩ := X1.leave (v := some (.ref am)) (fun h => by rw [Bd.returns] at h; cases h)
    refine ⟨_, _, pre0 _ ?_, hrun, hended, _, _, rfl, ?_, ⟨_, rfl⟩, hW, hsame.mono (by decide) (by decide)⟩
    · show Steps p.tables e below (s₁.setTop (mkF m 0 #[.val (.int p1)] [])) _
      refine XS.iloadN X0.here hx rfl (hb hby own_dprog_3_5_0) rfl ?_
      show Steps p.tables e below (s₁.setTop (mkF m 1 #[.val (.int p1)] [(.int p1)])) _
      refine X0.lookupswitchHit hx (g := (mkF m 1 #[.val (.int p1)] [(.int p1)])) rfl rfl (hb hby own_dprog_3_5_1) (by decide) (a := 400) (off := 35) (by rw [km]; decide) (show (0 : Int) ≤ ((1 : Nat) : Int) + 35 by decide) _ ?_
      show Steps p.tables e below (s₁.setTop (mkF m 36 #[.val (.int p1)] [])) _
      refine st1 _ ?_
      show Steps p.tables e below (T1.setTop (mkF m 39 #[.val (.int p1)] [(.ref am)])) _
      refine XS.goto X1.here hx rfl (pc0 := 39) (pc' := 57) rfl (hb hby own_dprog_3_5_39) (by decide) (by decide) ?_
      show Steps p.tables e below (T1.setTop (mkF m 57 #[.val (.int p1)] [(.ref am)])) _
      exact retOut X1 hx Bd.returns rfl (Or.inr (Or.inr (Or.inr (Or.inr ⟨rfl, rfl, rfl⟩)))) (hb hby own_dprog_3_5_57) hr
    · show Q_of Z p1 am an ac au h0 n0 _ T1.heap _
      rw [e1]
      exact ⟨(by unfold own_of; rw [if_pos km]), N0, rfl⟩
  · by_cases kn : p1 = (404 : Int32)
    · obtain ⟨T2, X2, e2, st2⟩ := getS2 X0 hx hZ hown (host := "") (Or.inl (hw _ (List.mem_of_getElem? (i := 13) rfl))) Via.refl e0 Sn (g := (mkF m 42 #[.val (.int p1)] [])) rfl (hb hby own_dprog_3_5_42)
      obtain ⟨fs, hr, hrun, hended, hW, hsame⟩ := X2.leave (v := some (.ref an)) (fun h => by rw [Bd.returns] at h; cases h)
      refine ⟨_, _, pre0 _ ?_, hrun, hended, _, _, rfl, ?_, ⟨_, rfl⟩, hW, hsame.mono (by decide) (by decide)⟩
      · show Steps p.tables e below (s₁.setTop (mkF m 0 #[.val (.int p1)] [])) _
        refine XS.iloadN X0.here hx rfl (hb hby own_dprog_3_5_0) rfl ?_
        show Steps p.tables e below (s₁.setTop (mkF m 1 #[.val (.int p1)] [(.int p1)])) _
        refine X0.lookupswitchHit hx (g := (mkF m 1 #[.val (.int p1)] [(.int p1)])) rfl rfl (hb hby own_dprog_3_5_1) (by decide) (a := 404) (off := 41) (by rw [kn]; decide) (show (0 : Int) ≤ ((1 : Nat) : Int) + 41 by decide) _ ?_
        show Steps p.tables e below (s₁.setTop (mkF m 42 #[.val (.int p1)] [])) _
        refine st2 _ ?_
        show Steps p.tables e below (T2.setTop (mkF m 45 #[.val (.int p1)] [(.ref an)])) _
        refine XS.goto X2.here hx rfl (pc0 := 45) (pc' := 57) rfl (hb hby own_dprog_3_5_45) (by decide) (by decide) ?_
        show Steps p.tables e below (T2.setTop (mkF m 57 #[.val (.int p1)] [(.ref an)])) _
        exact retOut X2 hx Bd.returns rfl (Or.inr (Or.inr (Or.inr (Or.inr ⟨rfl, rfl, rfl⟩)))) (hb hby own_dprog_3_5_57) hr
      · show Q_of Z p1 am an ac au h0 n0 _ T2.heap _
        rw [e2]
        exact ⟨(by unfold own_of; rw [if_neg km, if_pos kn]), N0, rfl⟩
    · by_cases kc : p1 = (409 : Int32)
      · obtain ⟨T3, X3, e3, st3⟩ := getS2 X0 hx hZ hown (host := "") (Or.inl (hw _ (List.mem_of_getElem? (i := 19) rfl))) Via.refl e0 Sc (g := (mkF m 48 #[.val (.int p1)] [])) rfl (hb hby own_dprog_3_5_48)
        obtain ⟨fs, hr, hrun, hended, hW, hsame⟩ := X3.leave (v := some (.ref ac)) (fun h => by rw [Bd.returns] at h; cases h)
        refine ⟨_, _, pre0 _ ?_, hrun, hended, _, _, rfl, ?_, ⟨_, rfl⟩, hW, hsame.mono (by decide) (by decide)⟩
        · show Steps p.tables e below (s₁.setTop (mkF m 0 #[.val (.int p1)] [])) _
          refine XS.iloadN X0.here hx rfl (hb hby own_dprog_3_5_0) rfl ?_
          show Steps p.tables e below (s₁.setTop (mkF m 1 #[.val (.int p1)] [(.int p1)])) _
          refine X0.lookupswitchHit hx (g := (mkF m 1 #[.val (.int p1)] [(.int p1)])) rfl rfl (hb hby own_dprog_3_5_1) (by decide) (a := 409) (off := 47) (by rw [kc]; decide) (show (0 : Int) ≤ ((1 : Nat) : Int) + 47 by decide) _ ?_
          show Steps p.tables e below (s₁.setTop (mkF m 48 #[.val (.int p1)] [])) _
          refine st3 _ ?_
          show Steps p.tables e below (T3.setTop (mkF m 51 #[.val (.int p1)] [(.ref ac)])) _
          refine XS.goto X3.here hx rfl (pc0 := 51) (pc' := 57) rfl (hb hby own_dprog_3_5_51) (by decide) (by decide) ?_
          show Steps p.tables e below (T3.setTop (mkF m 57 #[.val (.int p1)] [(.ref ac)])) _
          exact retOut X3 hx Bd.returns rfl (Or.inr (Or.inr (Or.inr (Or.inr ⟨rfl, rfl, rfl⟩)))) (hb hby own_dprog_3_5_57) hr
        · show Q_of Z p1 am an ac au h0 n0 _ T3.heap _
          rw [e3]
          exact ⟨(by unfold own_of; rw [if_neg km, if_neg kn, if_pos kc]), N0, rfl⟩
      · obtain ⟨T4, X4, e4, st4⟩ := getS2 X0 hx hZ hown (host := "") (Or.inl (hw _ (List.mem_of_getElem? (i := 4) rfl))) Via.refl e0 Su (g := (mkF m 54 #[.val (.int p1)] [])) rfl (hb hby own_dprog_3_5_54)
        obtain ⟨fs, hr, hrun, hended, hW, hsame⟩ := X4.leave (v := some (.ref au)) (fun h => by rw [Bd.returns] at h; cases h)
        refine ⟨_, _, pre0 _ ?_, hrun, hended, _, _, rfl, ?_, ⟨_, rfl⟩, hW, hsame.mono (by decide) (by decide)⟩
        · show Steps p.tables e below (s₁.setTop (mkF m 0 #[.val (.int p1)] [])) _
          refine XS.iloadN X0.here hx rfl (hb hby own_dprog_3_5_0) rfl ?_
          show Steps p.tables e below (s₁.setTop (mkF m 1 #[.val (.int p1)] [(.int p1)])) _
          refine X0.lookupswitchMiss hx (g := (mkF m 1 #[.val (.int p1)] [(.int p1)])) rfl rfl (hb hby own_dprog_3_5_1) (by decide) (own_miss p1 km kn kc) (show (0 : Int) ≤ ((1 : Nat) : Int) + 53 by decide) _ ?_
          show Steps p.tables e below (s₁.setTop (mkF m 54 #[.val (.int p1)] [])) _
          refine st4 _ ?_
          show Steps p.tables e below (T4.setTop (mkF m 57 #[.val (.int p1)] [(.ref au)])) _
          exact retOut X4 hx Bd.returns rfl (Or.inr (Or.inr (Or.inr (Or.inr ⟨rfl, rfl, rfl⟩)))) (hb hby own_dprog_3_5_57) hr
        · show Q_of Z p1 am an ac au h0 n0 _ T4.heap _
          rw [e4]
          exact ⟨(by unfold own_of; rw [if_neg km, if_neg kn, if_neg kc]), N0, rfl⟩
theorem own_dmethod_2_0 : decode method_2_code 0 = .ok (.iload_n 0, 1) := by decide +kernel
theorem own_dmethod_2_1 : decode method_2_code 1 = .ok (.sipush 400, 3) := by decide +kernel
theorem own_dmethod_2_4 : decode method_2_code 4 = .ok (.if_icmp .lt 10, 3) := by decide +kernel
theorem own_dmethod_2_7 : decode method_2_code 7 = .ok (.iload_n 0, 1) := by decide +kernel
theorem own_dmethod_2_8 : decode method_2_code 8 = .ok (.sipush 409, 3) := by decide +kernel
theorem own_dmethod_2_11 : decode method_2_code 11 = .ok (.if_icmp .le 7, 3) := by decide +kernel
theorem own_dmethod_2_14 : decode method_2_code 14 = .ok (.getstatic 7, 3) := by decide +kernel
theorem own_dmethod_2_17 : decode method_2_code 17 = .ok (.areturn, 1) := by decide +kernel
theorem own_dmethod_2_18 : decode method_2_code 18 = .ok (.iload_n 0, 1) := by decide +kernel
theorem own_dmethod_2_19 : decode method_2_code 19 = .ok (.sipush 400, 3) := by decide +kernel
theorem own_dmethod_2_22 : decode method_2_code 22 = .ok (.isub, 1) := by decide +kernel
theorem own_dmethod_2_23 : decode method_2_code 23 = .ok (.istore_n 1, 1) := by decide +kernel
theorem own_dmethod_2_24 : decode method_2_code 24 = .ok (.iload_n 1, 1) := by decide +kernel
theorem own_dmethod_2_25 : decode method_2_code 25 = .ok (.ifCond .ne 7, 3) := by decide +kernel
theorem own_dmethod_2_28 : decode method_2_code 28 = .ok (.getstatic 13, 3) := by decide +kernel
theorem own_dmethod_2_31 : decode method_2_code 31 = .ok (.areturn, 1) := by decide +kernel
theorem own_dmethod_2_32 : decode method_2_code 32 = .ok (.iload_n 1, 1) := by decide +kernel
theorem own_dmethod_2_33 : decode method_2_code 33 = .ok (.iconst 4, 1) := by decide +kernel
theorem own_dmethod_2_34 : decode method_2_code 34 = .ok (.if_icmp .ne 7, 3) := by decide +kernel
theorem own_dmethod_2_37 : decode method_2_code 37 = .ok (.getstatic 16, 3) := by decide +kernel
theorem own_dmethod_2_40 : decode method_2_code 40 = .ok (.areturn, 1) := by decide +kernel
theorem own_dmethod_2_41 : decode method_2_code 41 = .ok (.iload_n 1, 1) := by decide +kernel
theorem own_dmethod_2_42 : decode method_2_code 42 = .ok (.bipush 9, 2) := by decide +kernel
theorem own_dmethod_2_44 : decode method_2_code 44 = .ok (.if_icmp .ne 7, 3) := by decide +kernel
theorem own_dmethod_2_47 : decode method_2_code 47 = .ok (.getstatic 19, 3) := by decide +kernel
theorem own_dmethod_2_50 : decode method_2_code 50 = .ok (.areturn, 1) := by decide +kernel
theorem own_dmethod_2_51 : decode method_2_code 51 = .ok (.getstatic 7, 3) := by decide +kernel
theorem own_dmethod_2_54 : decode method_2_code 54 = .ok (.areturn, 1) := by decide +kernel
theorem own_pn_com_example_entente_entente_client_ReasonOfStatusPinLaw : plainName "com/example/entente/entente/client/ReasonOfStatusPinLaw" = true := by first | (simp [plainName, overriddenIn]; done) | decide +kernel
theorem own_ef_exp (m : MethodId) (x0 : Int32) : entryFrame m #[(.int x0)] 2 = mkF m 0 #[.val (.int x0), .unset] [] := by first | (simp [entryFrame, mkF, argsToLocals, Value.category]; done) | rfl
def Q_exp (Z : State) (p1 : Int32) (am : Addr) (an : Addr) (ac : Addr) (au : Addr) (h0 : Heap) (n0 : Nat) (v : Option Value) (h : Heap) (L : List Loc) : Prop := v = some (.ref (own_of p1 am an ac au)) ∧ Fr n0 L ∧ h = h0
set_option maxRecDepth 65536 in
set_option maxHeartbeats 40000000 in
theorem rm_exp (l : Launch) (Z : State) (a0 : Array Value) (hw : ∀ d ∈ tables_1, d.before a0 Z = true) (ws : List Jvm.Cond) (p1 : Int32) (am : Addr) (an : Addr) (ac : Addr) (au : Addr) (h0 : Heap) (n0 : Nat) (Z0 : n0 ≤ h0.size) (Sm : Sta Z h0 "com/example/entente/entente/client/CoordinatorException$Reason" "MALFORMED" "Lcom/example/entente/entente/client/CoordinatorException$Reason;" (.ref am)) (Sn : Sta Z h0 "com/example/entente/entente/client/CoordinatorException$Reason" "NOT_FOUND" "Lcom/example/entente/entente/client/CoordinatorException$Reason;" (.ref an)) (Sc : Sta Z h0 "com/example/entente/entente/client/CoordinatorException$Reason" "CONFLICT" "Lcom/example/entente/entente/client/CoordinatorException$Reason;" (.ref ac)) (Su : Sta Z h0 "com/example/entente/entente/client/CoordinatorException$Reason" "UNEXPECTED" "Lcom/example/entente/entente/client/CoordinatorException$Reason;" (.ref au)) :
    MetFree l (⟨"com/example/entente/entente/client/ReasonOfStatusPinLaw", "expected", "(I)Lcom/example/entente/entente/client/CoordinatorException$Reason;"⟩ : MethodName) (head1 (Jvm.Cond.code (⟨"com/example/entente/entente/client/ReasonOfStatusPinLaw", "expected", "(I)Lcom/example/entente/entente/client/CoordinatorException$Reason;"⟩ : MethodName) method_2_code 2 (some (.object "com/example/entente/entente/client/CoordinatorException$Reason")) :: ws) ({ frames := 0, cells := 0, slots := 0, locals := 0 } : Room)) (fun a U => a = #[(.int p1)] ∧ Z.Warmed39 U.vm ∧ U.heap = h0) (fun _ _ _ _ _ => True) (fun _ U o U' => ∃ v L, o = .returned v ∧ Q_exp Z p1 am an ac au h0 n0 v U'.heap L ∧ FrameEnd U o U' L ({ frames := 0, cells := 0, slots := 0, locals := 0 } : Room).cells ({ frames := 0, cells := 0, slots := 0, locals := 0 } : Room).slots) := by
  refine MetFree.of_bodySF (plainFor_of_name own_pn_com_example_entente_entente_client_ReasonOfStatusPinLaw) hisR ?_
  intro p e s m args below meth c s₁ Bd hml0 hP hK
  obtain ⟨rfl, hZ, hh⟩ := hP
  have hx := Bd.exec
  have hby := Bd.bytes
  have hml : c.maxLocals = 2 := hml0
  have hown : s.vm.findClass "com/example/entente/entente/client/ReasonOfStatusPinLaw" = some m.cls := findClass_of_methodNamed Bd.named
  have hnm := (name_of_methodNamed Bd.named Bd.method).1
  have X0 : Stand p l e ({ frames := 0, cells := 0, slots := 0, locals := 0 } : Room) s m #[(.int p1)] below meth c s₁ [] 0 0 := Stand.of_body Bd
  have e0 : s₁.heap = h0 := by rw [← hh, Bd.state]; rfl
  have N0 := Fr.nil n0
  have pre0 : ∀ t, Steps p.tables e below (s₁.setTop (mkF m 0 #[.val (.int p1), .unset] [])) t → Steps p.tables e below (s₁.setTop (entryFrame m #[(.int p1)] 2)) t := fun t k => castTop (own_ef_exp m p1) k
  by_cases c1 : p1 < (400 : Int32)
  · obtain ⟨T1, X1, e1, st1⟩ := getS2 X0 hx hZ hown (host := "") (Or.inl (hw _ (List.mem_of_getElem? (i := 10) rfl))) Via.refl e0 Su (g := (mkF m 14 #[.val (.int p1), .unset] [])) rfl (hb hby own_dmethod_2_14)
    obtain ⟨fs, hr, hrun, hended, hW, hsame⟩ := X1.leave (v := some (.ref au)) (fun h => by rw [Bd.returns] at h; cases h)
    refine ⟨_, _, pre0 _ ?_, hrun, hended, _, _, rfl, ?_, ⟨_, rfl⟩, hW, hsame.mono (by decide) (by decide)⟩
    · show Steps p.tables e below (s₁.setTop (mkF m 0 #[.val (.int p1), .unset] [])) _
      refine XS.iloadN X0.here hx rfl (hb hby own_dmethod_2_0) rfl ?_
      show Steps p.tables e below (s₁.setTop (mkF m 1 #[.val (.int p1), .unset] [(.int p1)])) _
      refine XS.sipush X0.here hx rfl (hb hby own_dmethod_2_1) ?_
      show Steps p.tables e below (s₁.setTop (mkF m 4 #[.val (.int p1), .unset] [(.int (400 : Int32)), (.int p1)])) _
      refine XS.icmpYes X0.here hx rfl (pc0 := 4) (pc' := 14) rfl (hb hby own_dmethod_2_4) rfl (tlt c1).1 (by decide) (by decide) ?_
      show Steps p.tables e below (s₁.setTop (mkF m 14 #[.val (.int p1), .unset] [])) _
      refine st1 _ ?_
      show Steps p.tables e below (T1.setTop (mkF m 17 #[.val (.int p1), .unset] [(.ref au)])) _
      exact retOut X1 hx Bd.returns rfl (Or.inr (Or.inr (Or.inr (Or.inr ⟨rfl, rfl, rfl⟩)))) (hb hby own_dmethod_2_17) hr
    · show Q_exp Z p1 am an ac au h0 n0 _ T1.heap _
      rw [e1]
      exact ⟨(by rw [own_exp, if_pos c1]), N0, rfl⟩
  · by_cases c2 : (409 : Int32) < p1
    · obtain ⟨T2, X2, e2, st2⟩ := getS2 X0 hx hZ hown (host := "") (Or.inl (hw _ (List.mem_of_getElem? (i := 10) rfl))) Via.refl e0 Su (g := (mkF m 14 #[.val (.int p1), .unset] [])) rfl (hb hby own_dmethod_2_14)
      obtain ⟨fs, hr, hrun, hended, hW, hsame⟩ := X2.leave (v := some (.ref au)) (fun h => by rw [Bd.returns] at h; cases h)
      refine ⟨_, _, pre0 _ ?_, hrun, hended, _, _, rfl, ?_, ⟨_, rfl⟩, hW, hsame.mono (by decide) (by decide)⟩
      · show Steps p.tables e below (s₁.setTop (mkF m 0 #[.val (.int p1), .unset] [])) _
        refine XS.iloadN X0.here hx rfl (hb hby own_dmethod_2_0) rfl ?_
        show Steps p.tables e below (s₁.setTop (mkF m 1 #[.val (.int p1), .unset] [(.int p1)])) _
        refine XS.sipush X0.here hx rfl (hb hby own_dmethod_2_1) ?_
        show Steps p.tables e below (s₁.setTop (mkF m 4 #[.val (.int p1), .unset] [(.int (400 : Int32)), (.int p1)])) _
        refine XS.icmpNo X0.here hx rfl (hb hby own_dmethod_2_4) rfl (flt c1).1 ?_
        show Steps p.tables e below (s₁.setTop (mkF m 7 #[.val (.int p1), .unset] [])) _
        refine XS.iloadN X0.here hx rfl (hb hby own_dmethod_2_7) rfl ?_
        show Steps p.tables e below (s₁.setTop (mkF m 8 #[.val (.int p1), .unset] [(.int p1)])) _
        refine XS.sipush X0.here hx rfl (hb hby own_dmethod_2_8) ?_
        show Steps p.tables e below (s₁.setTop (mkF m 11 #[.val (.int p1), .unset] [(.int (409 : Int32)), (.int p1)])) _
        refine XS.icmpNo X0.here hx rfl (hb hby own_dmethod_2_11) rfl (tlt c2).2.2.2 ?_
        show Steps p.tables e below (s₁.setTop (mkF m 14 #[.val (.int p1), .unset] [])) _
        refine st2 _ ?_
        show Steps p.tables e below (T2.setTop (mkF m 17 #[.val (.int p1), .unset] [(.ref au)])) _
        exact retOut X2 hx Bd.returns rfl (Or.inr (Or.inr (Or.inr (Or.inr ⟨rfl, rfl, rfl⟩)))) (hb hby own_dmethod_2_17) hr
      · show Q_exp Z p1 am an ac au h0 n0 _ T2.heap _
        rw [e2]
        exact ⟨(by rw [own_exp, if_neg c1, if_pos c2]), N0, rfl⟩
    · by_cases c3 : p1 - (400 : Int32) = (0 : Int32)
      · obtain ⟨T3, X3, e3, st3⟩ := getS2 X0 hx hZ hown (host := "") (Or.inl (hw _ (List.mem_of_getElem? (i := 18) rfl))) Via.refl e0 Sm (g := (mkF m 28 #[.val (.int p1), .val (.int (p1 - (400 : Int32)))] [])) rfl (hb hby own_dmethod_2_28)
        obtain ⟨fs, hr, hrun, hended, hW, hsame⟩ := X3.leave (v := some (.ref am)) (fun h => by rw [Bd.returns] at h; cases h)
        refine ⟨_, _, pre0 _ ?_, hrun, hended, _, _, rfl, ?_, ⟨_, rfl⟩, hW, hsame.mono (by decide) (by decide)⟩
        · show Steps p.tables e below (s₁.setTop (mkF m 0 #[.val (.int p1), .unset] [])) _
          refine XS.iloadN X0.here hx rfl (hb hby own_dmethod_2_0) rfl ?_
          show Steps p.tables e below (s₁.setTop (mkF m 1 #[.val (.int p1), .unset] [(.int p1)])) _
          refine XS.sipush X0.here hx rfl (hb hby own_dmethod_2_1) ?_
          show Steps p.tables e below (s₁.setTop (mkF m 4 #[.val (.int p1), .unset] [(.int (400 : Int32)), (.int p1)])) _
          refine XS.icmpNo X0.here hx rfl (hb hby own_dmethod_2_4) rfl (flt c1).1 ?_
          show Steps p.tables e below (s₁.setTop (mkF m 7 #[.val (.int p1), .unset] [])) _
          refine XS.iloadN X0.here hx rfl (hb hby own_dmethod_2_7) rfl ?_
          show Steps p.tables e below (s₁.setTop (mkF m 8 #[.val (.int p1), .unset] [(.int p1)])) _
          refine XS.sipush X0.here hx rfl (hb hby own_dmethod_2_8) ?_
          show Steps p.tables e below (s₁.setTop (mkF m 11 #[.val (.int p1), .unset] [(.int (409 : Int32)), (.int p1)])) _
          refine XS.icmpYes X0.here hx rfl (pc0 := 11) (pc' := 18) rfl (hb hby own_dmethod_2_11) rfl (flt c2).2.2.2 (by decide) (by decide) ?_
          show Steps p.tables e below (s₁.setTop (mkF m 18 #[.val (.int p1), .unset] [])) _
          refine XS.iloadN X0.here hx rfl (hb hby own_dmethod_2_18) rfl ?_
          show Steps p.tables e below (s₁.setTop (mkF m 19 #[.val (.int p1), .unset] [(.int p1)])) _
          refine XS.sipush X0.here hx rfl (hb hby own_dmethod_2_19) ?_
          show Steps p.tables e below (s₁.setTop (mkF m 22 #[.val (.int p1), .unset] [(.int (400 : Int32)), (.int p1)])) _
          refine XS.isub X0.here hx rfl (hb hby own_dmethod_2_22) rfl ?_
          show Steps p.tables e below (s₁.setTop (mkF m 23 #[.val (.int p1), .unset] [(.int (p1 - (400 : Int32)))])) _
          refine XS.istoreN X0.here hx rfl (hb hby own_dmethod_2_23) rfl (l' := #[.val (.int p1), .val (.int (p1 - (400 : Int32)))]) rfl ?_
          show Steps p.tables e below (s₁.setTop (mkF m 24 #[.val (.int p1), .val (.int (p1 - (400 : Int32)))] [])) _
          refine XS.iloadN X0.here hx rfl (hb hby own_dmethod_2_24) rfl ?_
          show Steps p.tables e below (s₁.setTop (mkF m 25 #[.val (.int p1), .val (.int (p1 - (400 : Int32)))] [(.int (p1 - (400 : Int32)))])) _
          refine XS.ifNo X0.here hx rfl (hb hby own_dmethod_2_25) rfl ((if0 _ _).trans (teq c3).2) ?_
          show Steps p.tables e below (s₁.setTop (mkF m 28 #[.val (.int p1), .val (.int (p1 - (400 : Int32)))] [])) _
          refine st3 _ ?_
          show Steps p.tables e below (T3.setTop (mkF m 31 #[.val (.int p1), .val (.int (p1 - (400 : Int32)))] [(.ref am)])) _
          exact retOut X3 hx Bd.returns rfl (Or.inr (Or.inr (Or.inr (Or.inr ⟨rfl, rfl, rfl⟩)))) (hb hby own_dmethod_2_31) hr
        · show Q_exp Z p1 am an ac au h0 n0 _ T3.heap _
          rw [e3]
          exact ⟨(by rw [own_exp, if_neg c1, if_neg c2, if_pos c3]), N0, rfl⟩
      · by_cases c4 : p1 - (400 : Int32) = (4 : Int32)
        · obtain ⟨T4, X4, e4, st4⟩ := getS2 X0 hx hZ hown (host := "") (Or.inl (hw _ (List.mem_of_getElem? (i := 15) rfl))) Via.refl e0 Sn (g := (mkF m 37 #[.val (.int p1), .val (.int (p1 - (400 : Int32)))] [])) rfl (hb hby own_dmethod_2_37)
          obtain ⟨fs, hr, hrun, hended, hW, hsame⟩ := X4.leave (v := some (.ref an)) (fun h => by rw [Bd.returns] at h; cases h)
          refine ⟨_, _, pre0 _ ?_, hrun, hended, _, _, rfl, ?_, ⟨_, rfl⟩, hW, hsame.mono (by decide) (by decide)⟩
          · show Steps p.tables e below (s₁.setTop (mkF m 0 #[.val (.int p1), .unset] [])) _
            refine XS.iloadN X0.here hx rfl (hb hby own_dmethod_2_0) rfl ?_
            show Steps p.tables e below (s₁.setTop (mkF m 1 #[.val (.int p1), .unset] [(.int p1)])) _
            refine XS.sipush X0.here hx rfl (hb hby own_dmethod_2_1) ?_
            show Steps p.tables e below (s₁.setTop (mkF m 4 #[.val (.int p1), .unset] [(.int (400 : Int32)), (.int p1)])) _
            refine XS.icmpNo X0.here hx rfl (hb hby own_dmethod_2_4) rfl (flt c1).1 ?_
            show Steps p.tables e below (s₁.setTop (mkF m 7 #[.val (.int p1), .unset] [])) _
            refine XS.iloadN X0.here hx rfl (hb hby own_dmethod_2_7) rfl ?_
            show Steps p.tables e below (s₁.setTop (mkF m 8 #[.val (.int p1), .unset] [(.int p1)])) _
            refine XS.sipush X0.here hx rfl (hb hby own_dmethod_2_8) ?_
            show Steps p.tables e below (s₁.setTop (mkF m 11 #[.val (.int p1), .unset] [(.int (409 : Int32)), (.int p1)])) _
            refine XS.icmpYes X0.here hx rfl (pc0 := 11) (pc' := 18) rfl (hb hby own_dmethod_2_11) rfl (flt c2).2.2.2 (by decide) (by decide) ?_
            show Steps p.tables e below (s₁.setTop (mkF m 18 #[.val (.int p1), .unset] [])) _
            refine XS.iloadN X0.here hx rfl (hb hby own_dmethod_2_18) rfl ?_
            show Steps p.tables e below (s₁.setTop (mkF m 19 #[.val (.int p1), .unset] [(.int p1)])) _
            refine XS.sipush X0.here hx rfl (hb hby own_dmethod_2_19) ?_
            show Steps p.tables e below (s₁.setTop (mkF m 22 #[.val (.int p1), .unset] [(.int (400 : Int32)), (.int p1)])) _
            refine XS.isub X0.here hx rfl (hb hby own_dmethod_2_22) rfl ?_
            show Steps p.tables e below (s₁.setTop (mkF m 23 #[.val (.int p1), .unset] [(.int (p1 - (400 : Int32)))])) _
            refine XS.istoreN X0.here hx rfl (hb hby own_dmethod_2_23) rfl (l' := #[.val (.int p1), .val (.int (p1 - (400 : Int32)))]) rfl ?_
            show Steps p.tables e below (s₁.setTop (mkF m 24 #[.val (.int p1), .val (.int (p1 - (400 : Int32)))] [])) _
            refine XS.iloadN X0.here hx rfl (hb hby own_dmethod_2_24) rfl ?_
            show Steps p.tables e below (s₁.setTop (mkF m 25 #[.val (.int p1), .val (.int (p1 - (400 : Int32)))] [(.int (p1 - (400 : Int32)))])) _
            refine XS.ifYes X0.here hx rfl (pc0 := 25) (pc' := 32) rfl (hb hby own_dmethod_2_25) rfl ((if0 _ _).trans (feq c3).2) (by decide) (by decide) ?_
            show Steps p.tables e below (s₁.setTop (mkF m 32 #[.val (.int p1), .val (.int (p1 - (400 : Int32)))] [])) _
            refine XS.iloadN X0.here hx rfl (hb hby own_dmethod_2_32) rfl ?_
            show Steps p.tables e below (s₁.setTop (mkF m 33 #[.val (.int p1), .val (.int (p1 - (400 : Int32)))] [(.int (p1 - (400 : Int32)))])) _
            refine XS.iconst X0.here hx rfl (hb hby own_dmethod_2_33) ?_
            show Steps p.tables e below (s₁.setTop (mkF m 34 #[.val (.int p1), .val (.int (p1 - (400 : Int32)))] [(.int (4 : Int32)), (.int (p1 - (400 : Int32)))])) _
            refine XS.icmpNo X0.here hx rfl (hb hby own_dmethod_2_34) rfl (teq c4).2 ?_
            show Steps p.tables e below (s₁.setTop (mkF m 37 #[.val (.int p1), .val (.int (p1 - (400 : Int32)))] [])) _
            refine st4 _ ?_
            show Steps p.tables e below (T4.setTop (mkF m 40 #[.val (.int p1), .val (.int (p1 - (400 : Int32)))] [(.ref an)])) _
            exact retOut X4 hx Bd.returns rfl (Or.inr (Or.inr (Or.inr (Or.inr ⟨rfl, rfl, rfl⟩)))) (hb hby own_dmethod_2_40) hr
          · show Q_exp Z p1 am an ac au h0 n0 _ T4.heap _
            rw [e4]
            exact ⟨(by rw [own_exp, if_neg c1, if_neg c2, if_neg c3, if_pos c4]), N0, rfl⟩
        · by_cases c5 : p1 - (400 : Int32) = (9 : Int32)
          · obtain ⟨T5, X5, e5, st5⟩ := getS2 X0 hx hZ hown (host := "") (Or.inl (hw _ (List.mem_of_getElem? (i := 21) rfl))) Via.refl e0 Sc (g := (mkF m 47 #[.val (.int p1), .val (.int (p1 - (400 : Int32)))] [])) rfl (hb hby own_dmethod_2_47)
            obtain ⟨fs, hr, hrun, hended, hW, hsame⟩ := X5.leave (v := some (.ref ac)) (fun h => by rw [Bd.returns] at h; cases h)
            refine ⟨_, _, pre0 _ ?_, hrun, hended, _, _, rfl, ?_, ⟨_, rfl⟩, hW, hsame.mono (by decide) (by decide)⟩
            · show Steps p.tables e below (s₁.setTop (mkF m 0 #[.val (.int p1), .unset] [])) _
              refine XS.iloadN X0.here hx rfl (hb hby own_dmethod_2_0) rfl ?_
              show Steps p.tables e below (s₁.setTop (mkF m 1 #[.val (.int p1), .unset] [(.int p1)])) _
              refine XS.sipush X0.here hx rfl (hb hby own_dmethod_2_1) ?_
              show Steps p.tables e below (s₁.setTop (mkF m 4 #[.val (.int p1), .unset] [(.int (400 : Int32)), (.int p1)])) _
              refine XS.icmpNo X0.here hx rfl (hb hby own_dmethod_2_4) rfl (flt c1).1 ?_
              show Steps p.tables e below (s₁.setTop (mkF m 7 #[.val (.int p1), .unset] [])) _
              refine XS.iloadN X0.here hx rfl (hb hby own_dmethod_2_7) rfl ?_
              show Steps p.tables e below (s₁.setTop (mkF m 8 #[.val (.int p1), .unset] [(.int p1)])) _
              refine XS.sipush X0.here hx rfl (hb hby own_dmethod_2_8) ?_
              show Steps p.tables e below (s₁.setTop (mkF m 11 #[.val (.int p1), .unset] [(.int (409 : Int32)), (.int p1)])) _
              refine XS.icmpYes X0.here hx rfl (pc0 := 11) (pc' := 18) rfl (hb hby own_dmethod_2_11) rfl (flt c2).2.2.2 (by decide) (by decide) ?_
              show Steps p.tables e below (s₁.setTop (mkF m 18 #[.val (.int p1), .unset] [])) _
              refine XS.iloadN X0.here hx rfl (hb hby own_dmethod_2_18) rfl ?_
              show Steps p.tables e below (s₁.setTop (mkF m 19 #[.val (.int p1), .unset] [(.int p1)])) _
              refine XS.sipush X0.here hx rfl (hb hby own_dmethod_2_19) ?_
              show Steps p.tables e below (s₁.setTop (mkF m 22 #[.val (.int p1), .unset] [(.int (400 : Int32)), (.int p1)])) _
              refine XS.isub X0.here hx rfl (hb hby own_dmethod_2_22) rfl ?_
              show Steps p.tables e below (s₁.setTop (mkF m 23 #[.val (.int p1), .unset] [(.int (p1 - (400 : Int32)))])) _
              refine XS.istoreN X0.here hx rfl (hb hby own_dmethod_2_23) rfl (l' := #[.val (.int p1), .val (.int (p1 - (400 : Int32)))]) rfl ?_
              show Steps p.tables e below (s₁.setTop (mkF m 24 #[.val (.int p1), .val (.int (p1 - (400 : Int32)))] [])) _
              refine XS.iloadN X0.here hx rfl (hb hby own_dmethod_2_24) rfl ?_
              show Steps p.tables e below (s₁.setTop (mkF m 25 #[.val (.int p1), .val (.int (p1 - (400 : Int32)))] [(.int (p1 - (400 : Int32)))])) _
              refine XS.ifYes X0.here hx rfl (pc0 := 25) (pc' := 32) rfl (hb hby own_dmethod_2_25) rfl ((if0 _ _).trans (feq c3).2) (by decide) (by decide) ?_
              show Steps p.tables e below (s₁.setTop (mkF m 32 #[.val (.int p1), .val (.int (p1 - (400 : Int32)))] [])) _
              refine XS.iloadN X0.here hx rfl (hb hby own_dmethod_2_32) rfl ?_
              show Steps p.tables e below (s₁.setTop (mkF m 33 #[.val (.int p1), .val (.int (p1 - (400 : Int32)))] [(.int (p1 - (400 : Int32)))])) _
              refine XS.iconst X0.here hx rfl (hb hby own_dmethod_2_33) ?_
              show Steps p.tables e below (s₁.setTop (mkF m 34 #[.val (.int p1), .val (.int (p1 - (400 : Int32)))] [(.int (4 : Int32)), (.int (p1 - (400 : Int32)))])) _
              refine XS.icmpYes X0.here hx rfl (pc0 := 34) (pc' := 41) rfl (hb hby own_dmethod_2_34) rfl (feq c4).2 (by decide) (by decide) ?_
              show Steps p.tables e below (s₁.setTop (mkF m 41 #[.val (.int p1), .val (.int (p1 - (400 : Int32)))] [])) _
              refine XS.iloadN X0.here hx rfl (hb hby own_dmethod_2_41) rfl ?_
              show Steps p.tables e below (s₁.setTop (mkF m 42 #[.val (.int p1), .val (.int (p1 - (400 : Int32)))] [(.int (p1 - (400 : Int32)))])) _
              refine XS.bipush X0.here hx rfl (hb hby own_dmethod_2_42) ?_
              show Steps p.tables e below (s₁.setTop (mkF m 44 #[.val (.int p1), .val (.int (p1 - (400 : Int32)))] [(.int (9 : Int32)), (.int (p1 - (400 : Int32)))])) _
              refine XS.icmpNo X0.here hx rfl (hb hby own_dmethod_2_44) rfl (teq c5).2 ?_
              show Steps p.tables e below (s₁.setTop (mkF m 47 #[.val (.int p1), .val (.int (p1 - (400 : Int32)))] [])) _
              refine st5 _ ?_
              show Steps p.tables e below (T5.setTop (mkF m 50 #[.val (.int p1), .val (.int (p1 - (400 : Int32)))] [(.ref ac)])) _
              exact retOut X5 hx Bd.returns rfl (Or.inr (Or.inr (Or.inr (Or.inr ⟨rfl, rfl, rfl⟩)))) (hb hby own_dmethod_2_50) hr
            · show Q_exp Z p1 am an ac au h0 n0 _ T5.heap _
              rw [e5]
              exact ⟨(by rw [own_exp, if_neg c1, if_neg c2, if_neg c3, if_neg c4, if_pos c5]), N0, rfl⟩
          · obtain ⟨T6, X6, e6, st6⟩ := getS2 X0 hx hZ hown (host := "") (Or.inl (hw _ (List.mem_of_getElem? (i := 10) rfl))) Via.refl e0 Su (g := (mkF m 51 #[.val (.int p1), .val (.int (p1 - (400 : Int32)))] [])) rfl (hb hby own_dmethod_2_51)
            obtain ⟨fs, hr, hrun, hended, hW, hsame⟩ := X6.leave (v := some (.ref au)) (fun h => by rw [Bd.returns] at h; cases h)
            refine ⟨_, _, pre0 _ ?_, hrun, hended, _, _, rfl, ?_, ⟨_, rfl⟩, hW, hsame.mono (by decide) (by decide)⟩
            · show Steps p.tables e below (s₁.setTop (mkF m 0 #[.val (.int p1), .unset] [])) _
              refine XS.iloadN X0.here hx rfl (hb hby own_dmethod_2_0) rfl ?_
              show Steps p.tables e below (s₁.setTop (mkF m 1 #[.val (.int p1), .unset] [(.int p1)])) _
              refine XS.sipush X0.here hx rfl (hb hby own_dmethod_2_1) ?_
              show Steps p.tables e below (s₁.setTop (mkF m 4 #[.val (.int p1), .unset] [(.int (400 : Int32)), (.int p1)])) _
              refine XS.icmpNo X0.here hx rfl (hb hby own_dmethod_2_4) rfl (flt c1).1 ?_
              show Steps p.tables e below (s₁.setTop (mkF m 7 #[.val (.int p1), .unset] [])) _
              refine XS.iloadN X0.here hx rfl (hb hby own_dmethod_2_7) rfl ?_
              show Steps p.tables e below (s₁.setTop (mkF m 8 #[.val (.int p1), .unset] [(.int p1)])) _
              refine XS.sipush X0.here hx rfl (hb hby own_dmethod_2_8) ?_
              show Steps p.tables e below (s₁.setTop (mkF m 11 #[.val (.int p1), .unset] [(.int (409 : Int32)), (.int p1)])) _
              refine XS.icmpYes X0.here hx rfl (pc0 := 11) (pc' := 18) rfl (hb hby own_dmethod_2_11) rfl (flt c2).2.2.2 (by decide) (by decide) ?_
              show Steps p.tables e below (s₁.setTop (mkF m 18 #[.val (.int p1), .unset] [])) _
              refine XS.iloadN X0.here hx rfl (hb hby own_dmethod_2_18) rfl ?_
              show Steps p.tables e below (s₁.setTop (mkF m 19 #[.val (.int p1), .unset] [(.int p1)])) _
              refine XS.sipush X0.here hx rfl (hb hby own_dmethod_2_19) ?_
              show Steps p.tables e below (s₁.setTop (mkF m 22 #[.val (.int p1), .unset] [(.int (400 : Int32)), (.int p1)])) _
              refine XS.isub X0.here hx rfl (hb hby own_dmethod_2_22) rfl ?_
              show Steps p.tables e below (s₁.setTop (mkF m 23 #[.val (.int p1), .unset] [(.int (p1 - (400 : Int32)))])) _
              refine XS.istoreN X0.here hx rfl (hb hby own_dmethod_2_23) rfl (l' := #[.val (.int p1), .val (.int (p1 - (400 : Int32)))]) rfl ?_
              show Steps p.tables e below (s₁.setTop (mkF m 24 #[.val (.int p1), .val (.int (p1 - (400 : Int32)))] [])) _
              refine XS.iloadN X0.here hx rfl (hb hby own_dmethod_2_24) rfl ?_
              show Steps p.tables e below (s₁.setTop (mkF m 25 #[.val (.int p1), .val (.int (p1 - (400 : Int32)))] [(.int (p1 - (400 : Int32)))])) _
              refine XS.ifYes X0.here hx rfl (pc0 := 25) (pc' := 32) rfl (hb hby own_dmethod_2_25) rfl ((if0 _ _).trans (feq c3).2) (by decide) (by decide) ?_
              show Steps p.tables e below (s₁.setTop (mkF m 32 #[.val (.int p1), .val (.int (p1 - (400 : Int32)))] [])) _
              refine XS.iloadN X0.here hx rfl (hb hby own_dmethod_2_32) rfl ?_
              show Steps p.tables e below (s₁.setTop (mkF m 33 #[.val (.int p1), .val (.int (p1 - (400 : Int32)))] [(.int (p1 - (400 : Int32)))])) _
              refine XS.iconst X0.here hx rfl (hb hby own_dmethod_2_33) ?_
              show Steps p.tables e below (s₁.setTop (mkF m 34 #[.val (.int p1), .val (.int (p1 - (400 : Int32)))] [(.int (4 : Int32)), (.int (p1 - (400 : Int32)))])) _
              refine XS.icmpYes X0.here hx rfl (pc0 := 34) (pc' := 41) rfl (hb hby own_dmethod_2_34) rfl (feq c4).2 (by decide) (by decide) ?_
              show Steps p.tables e below (s₁.setTop (mkF m 41 #[.val (.int p1), .val (.int (p1 - (400 : Int32)))] [])) _
              refine XS.iloadN X0.here hx rfl (hb hby own_dmethod_2_41) rfl ?_
              show Steps p.tables e below (s₁.setTop (mkF m 42 #[.val (.int p1), .val (.int (p1 - (400 : Int32)))] [(.int (p1 - (400 : Int32)))])) _
              refine XS.bipush X0.here hx rfl (hb hby own_dmethod_2_42) ?_
              show Steps p.tables e below (s₁.setTop (mkF m 44 #[.val (.int p1), .val (.int (p1 - (400 : Int32)))] [(.int (9 : Int32)), (.int (p1 - (400 : Int32)))])) _
              refine XS.icmpYes X0.here hx rfl (pc0 := 44) (pc' := 51) rfl (hb hby own_dmethod_2_44) rfl (feq c5).2 (by decide) (by decide) ?_
              show Steps p.tables e below (s₁.setTop (mkF m 51 #[.val (.int p1), .val (.int (p1 - (400 : Int32)))] [])) _
              refine st6 _ ?_
              show Steps p.tables e below (T6.setTop (mkF m 54 #[.val (.int p1), .val (.int (p1 - (400 : Int32)))] [(.ref au)])) _
              exact retOut X6 hx Bd.returns rfl (Or.inr (Or.inr (Or.inr (Or.inr ⟨rfl, rfl, rfl⟩)))) (hb hby own_dmethod_2_54) hr
            · show Q_exp Z p1 am an ac au h0 n0 _ T6.heap _
              rw [e6]
              exact ⟨(by rw [own_exp, if_neg c1, if_neg c2, if_neg c3, if_neg c4, if_neg c5]), N0, rfl⟩
theorem own_pd0 : parseMethodDescriptor "(I)Lcom/example/entente/entente/client/CoordinatorException$Reason;" = some ⟨[.int], some (.object "com/example/entente/entente/client/CoordinatorException$Reason")⟩ := by decide +kernel
theorem own_ef_law (m : MethodId) (x0 : Int32) (x1 : Int32) : entryFrame m #[(.int x0), (.int x1)] maxLocals = mkF m 0 #[.val (.int x0), .val (.int x1), .unset, .unset, .unset] [] := by first | (simp [entryFrame, mkF, argsToLocals, Value.category, maxLocals]; done) | rfl
def Q_law (Z : State) (p1 : Int32) (p2 : Int32) (am : Addr) (an : Addr) (ac : Addr) (au : Addr) (ar : Addr) (h0 : Heap) (n0 : Nat) (v : Option Value) (h : Heap) (L : List Loc) : Prop := v = some (.int 1) ∧ Fr n0 L
set_option maxRecDepth 65536 in
set_option maxHeartbeats 40000000 in
theorem rm_law (l : Launch) (Z : State) (a0 : Array Value) (hw : ∀ d ∈ tables_1, d.before a0 Z = true) (ws : List Jvm.Cond) (p1 : Int32) (p2 : Int32) (am : Addr) (an : Addr) (ac : Addr) (au : Addr) (ar : Addr) (h0 : Heap) (n0 : Nat) (Z0 : n0 ≤ h0.size) (Sm : Sta Z h0 "com/example/entente/entente/client/CoordinatorException$Reason" "MALFORMED" "Lcom/example/entente/entente/client/CoordinatorException$Reason;" (.ref am)) (Sn : Sta Z h0 "com/example/entente/entente/client/CoordinatorException$Reason" "NOT_FOUND" "Lcom/example/entente/entente/client/CoordinatorException$Reason;" (.ref an)) (Sc : Sta Z h0 "com/example/entente/entente/client/CoordinatorException$Reason" "CONFLICT" "Lcom/example/entente/entente/client/CoordinatorException$Reason;" (.ref ac)) (Su : Sta Z h0 "com/example/entente/entente/client/CoordinatorException$Reason" "UNEXPECTED" "Lcom/example/entente/entente/client/CoordinatorException$Reason;" (.ref au)) (Sr : Sta Z h0 "com/example/entente/entente/client/CoordinatorException$Reason" "UNREACHABLE" "Lcom/example/entente/entente/client/CoordinatorException$Reason;" (.ref ar)) (hm : am ≠ ar) (hn : an ≠ ar) (hc : ac ≠ ar) (hu : au ≠ ar) :
    MetFree l x (head1 (Jvm.Cond.code x code maxLocals ret :: ws) room_1) (fun a U => a = #[(.int p1), (.int p2)] ∧ Z.Warmed39 U.vm ∧ U.heap = h0) (fun _ _ _ _ _ => True) (fun _ U o U' => ∃ v L, o = .returned v ∧ Q_law Z p1 p2 am an ac au ar h0 n0 v U'.heap L ∧ FrameEnd U o U' L room_1.cells room_1.slots) := by
  refine MetFree.of_bodySF (plainFor_of_name own_pn_com_example_entente_entente_client_ReasonOfStatusPinLaw) hisR ?_
  intro p e s m args below meth c s₁ Bd hml0 hP hK
  obtain ⟨rfl, hZ, hh⟩ := hP
  have hx := Bd.exec
  have hby := Bd.bytes
  have hml : c.maxLocals = 5 := hml0
  have hown : s.vm.findClass "com/example/entente/entente/client/ReasonOfStatusPinLaw" = some m.cls := findClass_of_methodNamed Bd.named
  have hnm := (name_of_methodNamed Bd.named Bd.method).1
  have X0 : Stand p l e room_1 s m #[(.int p1), (.int p2)] below meth c s₁ [] 0 0 := Stand.of_body Bd
  have e0 : s₁.heap = h0 := by rw [← hh, Bd.state]; rfl
  have N0 := Fr.nil n0
  have pre0 : ∀ t, Steps p.tables e below (s₁.setTop (mkF m 0 #[.val (.int p1), .val (.int p2), .unset, .unset, .unset] [])) t → Steps p.tables e below (s₁.setTop (entryFrame m #[(.int p1), (.int p2)] maxLocals)) t := fun t k => castTop (own_ef_law m p1 p2) k
  obtain ⟨st, h_st⟩ : ∃ z : Int32, z = (if (p2 &&& (3 : Int32)) = (0 : Int32) then ((396 : Int32) + (p1 &&& (15 : Int32))) else (if (p2 &&& (3 : Int32)) = (1 : Int32) then ((400 : Int32) + (p1 &&& (15 : Int32))) else p1)) := ⟨_, rfl⟩
  obtain ⟨_, _, ⟨T1, L1, k1, n1⟩, -, X1, ⟨Lc1, hQ1, l1, y1, z1⟩, st1⟩ := Jvm.LawKit.callS X0 hx (y := (⟨"com/example/entente/entente/client/CoordinatorException$Reason", "ofStatus", "(I)Lcom/example/entente/entente/client/CoordinatorException$Reason;"⟩ : MethodName)) hown (mvT hZ (hw _ (List.mem_of_getElem? (i := 0) rfl))) (mvT hZ (hw _ (List.mem_of_getElem? (i := 1) rfl))) (mvT hZ (hw _ (List.mem_of_getElem? (i := 2) rfl))) (mvT hZ (hw _ (List.mem_of_getElem? (i := 3) rfl))) (by decide) (backOf (W := 0) (rm_of l Z a0 hw [] st am an ac au h0 n0 Z0 Sm Sn Sc Su) hZ (hw _ (List.mem_of_getElem? (i := 3) rfl)) (hw _ (List.mem_of_getElem? (i := 2) rfl)) (by decide) (by decide)) (g := (mkF m 40 #[.val (.int p1), .val (.int p2), .val (.int (p2 &&& (3 : Int32))), .val (.int st), .unset] [(.int st)])) rfl (by rw [hml]; rfl) (argsL := [(.int st)]) (rest := []) (lenOf own_pd0 rfl) rfl (by show 2 * 0 + _ ≤ _; exact Nat.le_of_eq rfl) (hb hby at_40) (fun _ _ => ⟨rfl, e0, (by decide : 0 + 0 ≤ _), (by decide : 0 + 0 ≤ _)⟩)
  dsimp only [Pt.U, Pt.locs, Pt.cells, Pt.slots] at X1 l1 y1 z1 st1 hQ1
  rw [l1, y1, z1] at X1
  obtain ⟨rfl, Nq1, e1⟩ := hQ1
  have N1 := Fr.app N0 Nq1
  obtain ⟨b, h_b⟩ : ∃ z : Addr, z = own_of st am an ac au := ⟨_, rfl⟩
  have h_b2 : own_of st am an ac au = b := h_b.symm
  have hne : ¬ b = ar := by
    rw [h_b]; unfold own_of; split
    · exact hm
    · split
      · exact hn
      · split
        · exact hc
        · exact hu
  obtain ⟨_, _, ⟨T2, L2, k2, n2⟩, -, X2, ⟨Lc2, hQ2, l2, y2, z2⟩, st2⟩ := Jvm.LawKit.callS X1 hx (y := (⟨"com/example/entente/entente/client/ReasonOfStatusPinLaw", "expected", "(I)Lcom/example/entente/entente/client/CoordinatorException$Reason;"⟩ : MethodName)) hown (mvT hZ (hw _ (List.mem_of_getElem? (i := 6) rfl))) (mvT hZ (hw _ (List.mem_of_getElem? (i := 7) rfl))) (mvT hZ (hw _ (List.mem_of_getElem? (i := 8) rfl))) (mvT hZ (hw _ (List.mem_of_getElem? (i := 9) rfl))) (by decide) (backOf (W := 1) (rm_exp l Z a0 hw [] st am an ac au h0 n0 Z0 Sm Sn Sc Su) hZ (hw _ (List.mem_of_getElem? (i := 9) rfl)) (hw _ (List.mem_of_getElem? (i := 8) rfl)) (by decide) (by decide)) (g := (mkF m 48 #[.val (.int p1), .val (.int p2), .val (.int (p2 &&& (3 : Int32))), .val (.int st), .val (.ref b)] [(.int st), (.ref b)])) rfl (by rw [hml]; rfl) (argsL := [(.int st)]) (rest := [(.ref b)]) (lenOf own_pd0 rfl) rfl (by show 2 * 0 + _ ≤ _; exact Nat.le_of_eq rfl) (hb hby at_48) (fun _ _ => ⟨rfl, e1, (by decide : 0 + 0 ≤ _), (by decide : 0 + 0 ≤ _)⟩)
  dsimp only [Pt.U, Pt.locs, Pt.cells, Pt.slots] at X2 l2 y2 z2 st2 hQ2
  rw [l2, y2, z2] at X2
  obtain ⟨rfl, Nq2, e2⟩ := hQ2
  have N2 := Fr.app N1 Nq2
  obtain ⟨T3, X3, e3, st3⟩ := getS2 X2 hx hZ hown (host := "") (Or.inl (hw _ (List.mem_of_getElem? (i := 11) rfl))) Via.refl e2 Sr (g := (mkF m 56 #[.val (.int p1), .val (.int p2), .val (.int (p2 &&& (3 : Int32))), .val (.int st), .val (.ref b)] [(.ref b)])) rfl (hb hby at_56)
  obtain ⟨fs, hr, hrun, hended, hW, hsame⟩ := X3.leave (v := some (.int (1 : Int32))) (fun h => by rw [Bd.returns] at h; cases h)
  refine ⟨_, _, pre0 _ ?_, hrun, hended, _, _, rfl, ?_, ⟨_, rfl⟩, hW, hsame.mono (by decide) (by decide)⟩
  · show Steps p.tables e below (s₁.setTop (mkF m 0 #[.val (.int p1), .val (.int p2), .unset, .unset, .unset] [])) _
    refine XS.iloadN X0.here hx rfl (hb hby at_0) rfl ?_
    show Steps p.tables e below (s₁.setTop (mkF m 1 #[.val (.int p1), .val (.int p2), .unset, .unset, .unset] [(.int p2)])) _
    refine XS.iconst X0.here hx rfl (hb hby at_1) ?_
    show Steps p.tables e below (s₁.setTop (mkF m 2 #[.val (.int p1), .val (.int p2), .unset, .unset, .unset] [(.int (3 : Int32)), (.int p2)])) _
    refine XS.iand X0.here hx rfl (hb hby at_2) rfl ?_
    show Steps p.tables e below (s₁.setTop (mkF m 3 #[.val (.int p1), .val (.int p2), .unset, .unset, .unset] [(.int (p2 &&& (3 : Int32)))])) _
    refine XS.istoreN X0.here hx rfl (hb hby at_3) rfl (l' := #[.val (.int p1), .val (.int p2), .val (.int (p2 &&& (3 : Int32))), .unset, .unset]) rfl ?_
    show Steps p.tables e below (s₁.setTop (mkF m 4 #[.val (.int p1), .val (.int p2), .val (.int (p2 &&& (3 : Int32))), .unset, .unset] [])) _
    refine XS.iloadN X0.here hx rfl (hb hby at_4) rfl ?_
    show Steps p.tables e below (s₁.setTop (mkF m 5 #[.val (.int p1), .val (.int p2), .val (.int (p2 &&& (3 : Int32))), .unset, .unset] [(.int (p2 &&& (3 : Int32)))])) _
    refine (show ∀ tt, Steps p.tables e below (s₁.setTop (mkF m 39 #[.val (.int p1), .val (.int p2), .val (.int (p2 &&& (3 : Int32))), .val (.int st), .unset] [])) tt → Steps p.tables e below (s₁.setTop (mkF m 5 #[.val (.int p1), .val (.int p2), .val (.int (p2 &&& (3 : Int32))), .unset, .unset] [(.int (p2 &&& (3 : Int32)))])) tt from ?_) _ ?_
    · intro tt kt
      by_cases c0 : (p2 &&& (3 : Int32)) = (0 : Int32)
      · rw [h_st, if_pos c0] at kt
        show Steps p.tables e below (s₁.setTop (mkF m 5 #[.val (.int p1), .val (.int p2), .val (.int (p2 &&& (3 : Int32))), .unset, .unset] [(.int (p2 &&& (3 : Int32)))])) _
        refine XS.ifNo X0.here hx rfl (hb hby at_5) rfl ((if0 _ _).trans (teq c0).2) ?_
        show Steps p.tables e below (s₁.setTop (mkF m 8 #[.val (.int p1), .val (.int p2), .val (.int (p2 &&& (3 : Int32))), .unset, .unset] [])) _
        refine XS.sipush X0.here hx rfl (hb hby at_8) ?_
        show Steps p.tables e below (s₁.setTop (mkF m 11 #[.val (.int p1), .val (.int p2), .val (.int (p2 &&& (3 : Int32))), .unset, .unset] [(.int (396 : Int32))])) _
        refine XS.iloadN X0.here hx rfl (hb hby at_11) rfl ?_
        show Steps p.tables e below (s₁.setTop (mkF m 12 #[.val (.int p1), .val (.int p2), .val (.int (p2 &&& (3 : Int32))), .unset, .unset] [(.int p1), (.int (396 : Int32))])) _
        refine XS.bipush X0.here hx rfl (hb hby at_12) ?_
        show Steps p.tables e below (s₁.setTop (mkF m 14 #[.val (.int p1), .val (.int p2), .val (.int (p2 &&& (3 : Int32))), .unset, .unset] [(.int (15 : Int32)), (.int p1), (.int (396 : Int32))])) _
        refine XS.iand X0.here hx rfl (hb hby at_14) rfl ?_
        show Steps p.tables e below (s₁.setTop (mkF m 15 #[.val (.int p1), .val (.int p2), .val (.int (p2 &&& (3 : Int32))), .unset, .unset] [(.int (p1 &&& (15 : Int32))), (.int (396 : Int32))])) _
        refine XS.iadd X0.here hx rfl (hb hby at_15) rfl ?_
        show Steps p.tables e below (s₁.setTop (mkF m 16 #[.val (.int p1), .val (.int p2), .val (.int (p2 &&& (3 : Int32))), .unset, .unset] [(.int ((396 : Int32) + (p1 &&& (15 : Int32))))])) _
        refine XS.istoreN X0.here hx rfl (hb hby at_16) rfl (l' := #[.val (.int p1), .val (.int p2), .val (.int (p2 &&& (3 : Int32))), .val (.int ((396 : Int32) + (p1 &&& (15 : Int32)))), .unset]) rfl ?_
        show Steps p.tables e below (s₁.setTop (mkF m 17 #[.val (.int p1), .val (.int p2), .val (.int (p2 &&& (3 : Int32))), .val (.int ((396 : Int32) + (p1 &&& (15 : Int32)))), .unset] [])) _
        refine XS.goto X0.here hx rfl (pc0 := 17) (pc' := 39) rfl (hb hby at_17) (by decide) (by decide) ?_
        exact kt
      · by_cases c1 : (p2 &&& (3 : Int32)) = (1 : Int32)
        · rw [h_st, if_neg c0, if_pos c1] at kt
          show Steps p.tables e below (s₁.setTop (mkF m 5 #[.val (.int p1), .val (.int p2), .val (.int (p2 &&& (3 : Int32))), .unset, .unset] [(.int (p2 &&& (3 : Int32)))])) _
          refine XS.ifYes X0.here hx rfl (pc0 := 5) (pc' := 20) rfl (hb hby at_5) rfl ((if0 _ _).trans (feq c0).2) (by decide) (by decide) ?_
          show Steps p.tables e below (s₁.setTop (mkF m 20 #[.val (.int p1), .val (.int p2), .val (.int (p2 &&& (3 : Int32))), .unset, .unset] [])) _
          refine XS.iloadN X0.here hx rfl (hb hby at_20) rfl ?_
          show Steps p.tables e below (s₁.setTop (mkF m 21 #[.val (.int p1), .val (.int p2), .val (.int (p2 &&& (3 : Int32))), .unset, .unset] [(.int (p2 &&& (3 : Int32)))])) _
          refine XS.iconst X0.here hx rfl (hb hby at_21) ?_
          show Steps p.tables e below (s₁.setTop (mkF m 22 #[.val (.int p1), .val (.int p2), .val (.int (p2 &&& (3 : Int32))), .unset, .unset] [(.int (1 : Int32)), (.int (p2 &&& (3 : Int32)))])) _
          refine XS.icmpNo X0.here hx rfl (hb hby at_22) rfl (teq c1).2 ?_
          show Steps p.tables e below (s₁.setTop (mkF m 25 #[.val (.int p1), .val (.int p2), .val (.int (p2 &&& (3 : Int32))), .unset, .unset] [])) _
          refine XS.sipush X0.here hx rfl (hb hby at_25) ?_
          show Steps p.tables e below (s₁.setTop (mkF m 28 #[.val (.int p1), .val (.int p2), .val (.int (p2 &&& (3 : Int32))), .unset, .unset] [(.int (400 : Int32))])) _
          refine XS.iloadN X0.here hx rfl (hb hby at_28) rfl ?_
          show Steps p.tables e below (s₁.setTop (mkF m 29 #[.val (.int p1), .val (.int p2), .val (.int (p2 &&& (3 : Int32))), .unset, .unset] [(.int p1), (.int (400 : Int32))])) _
          refine XS.bipush X0.here hx rfl (hb hby at_29) ?_
          show Steps p.tables e below (s₁.setTop (mkF m 31 #[.val (.int p1), .val (.int p2), .val (.int (p2 &&& (3 : Int32))), .unset, .unset] [(.int (15 : Int32)), (.int p1), (.int (400 : Int32))])) _
          refine XS.iand X0.here hx rfl (hb hby at_31) rfl ?_
          show Steps p.tables e below (s₁.setTop (mkF m 32 #[.val (.int p1), .val (.int p2), .val (.int (p2 &&& (3 : Int32))), .unset, .unset] [(.int (p1 &&& (15 : Int32))), (.int (400 : Int32))])) _
          refine XS.iadd X0.here hx rfl (hb hby at_32) rfl ?_
          show Steps p.tables e below (s₁.setTop (mkF m 33 #[.val (.int p1), .val (.int p2), .val (.int (p2 &&& (3 : Int32))), .unset, .unset] [(.int ((400 : Int32) + (p1 &&& (15 : Int32))))])) _
          refine XS.istoreN X0.here hx rfl (hb hby at_33) rfl (l' := #[.val (.int p1), .val (.int p2), .val (.int (p2 &&& (3 : Int32))), .val (.int ((400 : Int32) + (p1 &&& (15 : Int32)))), .unset]) rfl ?_
          show Steps p.tables e below (s₁.setTop (mkF m 34 #[.val (.int p1), .val (.int p2), .val (.int (p2 &&& (3 : Int32))), .val (.int ((400 : Int32) + (p1 &&& (15 : Int32)))), .unset] [])) _
          refine XS.goto X0.here hx rfl (pc0 := 34) (pc' := 39) rfl (hb hby at_34) (by decide) (by decide) ?_
          exact kt
        · rw [h_st, if_neg c0, if_neg c1] at kt
          show Steps p.tables e below (s₁.setTop (mkF m 5 #[.val (.int p1), .val (.int p2), .val (.int (p2 &&& (3 : Int32))), .unset, .unset] [(.int (p2 &&& (3 : Int32)))])) _
          refine XS.ifYes X0.here hx rfl (pc0 := 5) (pc' := 20) rfl (hb hby at_5) rfl ((if0 _ _).trans (feq c0).2) (by decide) (by decide) ?_
          show Steps p.tables e below (s₁.setTop (mkF m 20 #[.val (.int p1), .val (.int p2), .val (.int (p2 &&& (3 : Int32))), .unset, .unset] [])) _
          refine XS.iloadN X0.here hx rfl (hb hby at_20) rfl ?_
          show Steps p.tables e below (s₁.setTop (mkF m 21 #[.val (.int p1), .val (.int p2), .val (.int (p2 &&& (3 : Int32))), .unset, .unset] [(.int (p2 &&& (3 : Int32)))])) _
          refine XS.iconst X0.here hx rfl (hb hby at_21) ?_
          show Steps p.tables e below (s₁.setTop (mkF m 22 #[.val (.int p1), .val (.int p2), .val (.int (p2 &&& (3 : Int32))), .unset, .unset] [(.int (1 : Int32)), (.int (p2 &&& (3 : Int32)))])) _
          refine XS.icmpYes X0.here hx rfl (pc0 := 22) (pc' := 37) rfl (hb hby at_22) rfl (feq c1).2 (by decide) (by decide) ?_
          show Steps p.tables e below (s₁.setTop (mkF m 37 #[.val (.int p1), .val (.int p2), .val (.int (p2 &&& (3 : Int32))), .unset, .unset] [])) _
          refine XS.iloadN X0.here hx rfl (hb hby at_37) rfl ?_
          show Steps p.tables e below (s₁.setTop (mkF m 38 #[.val (.int p1), .val (.int p2), .val (.int (p2 &&& (3 : Int32))), .unset, .unset] [(.int p1)])) _
          refine XS.istoreN X0.here hx rfl (hb hby at_38) rfl (l' := #[.val (.int p1), .val (.int p2), .val (.int (p2 &&& (3 : Int32))), .val (.int p1), .unset]) rfl ?_
          exact kt
    show Steps p.tables e below (s₁.setTop (mkF m 39 #[.val (.int p1), .val (.int p2), .val (.int (p2 &&& (3 : Int32))), .val (.int st), .unset] [])) _
    refine XS.iloadN X0.here hx rfl (hb hby at_39) rfl ?_
    show Steps p.tables e below (s₁.setTop (mkF m 40 #[.val (.int p1), .val (.int p2), .val (.int (p2 &&& (3 : Int32))), .val (.int st), .unset] [(.int st)])) _
    refine st1 _ ?_
    show Steps p.tables e below (T1.setTop (mkF m 43 #[.val (.int p1), .val (.int p2), .val (.int (p2 &&& (3 : Int32))), .val (.int st), .unset] [(.ref (own_of st am an ac au))])) _
    rw [h_b2]
    show Steps p.tables e below (T1.setTop (mkF m 43 #[.val (.int p1), .val (.int p2), .val (.int (p2 &&& (3 : Int32))), .val (.int st), .unset] [(.ref b)])) _
    refine XS.astore X1.here hx rfl (hb hby at_43) rfl rfl (l' := #[.val (.int p1), .val (.int p2), .val (.int (p2 &&& (3 : Int32))), .val (.int st), .val (.ref b)]) rfl ?_
    show Steps p.tables e below (T1.setTop (mkF m 45 #[.val (.int p1), .val (.int p2), .val (.int (p2 &&& (3 : Int32))), .val (.int st), .val (.ref b)] [])) _
    refine XS.aload X1.here hx rfl (hb hby at_45) rfl rfl ?_
    show Steps p.tables e below (T1.setTop (mkF m 47 #[.val (.int p1), .val (.int p2), .val (.int (p2 &&& (3 : Int32))), .val (.int st), .val (.ref b)] [(.ref b)])) _
    refine XS.iloadN X1.here hx rfl (hb hby at_47) rfl ?_
    show Steps p.tables e below (T1.setTop (mkF m 48 #[.val (.int p1), .val (.int p2), .val (.int (p2 &&& (3 : Int32))), .val (.int st), .val (.ref b)] [(.int st), (.ref b)])) _
    refine st2 _ ?_
    show Steps p.tables e below (T2.setTop (mkF m 51 #[.val (.int p1), .val (.int p2), .val (.int (p2 &&& (3 : Int32))), .val (.int st), .val (.ref b)] [(.ref (own_of st am an ac au)), (.ref b)])) _
    refine Jvm.RoadKit.acmp (g := (mkF m 51 #[.val (.int p1), .val (.int p2), .val (.int (p2 &&& (3 : Int32))), .val (.int st), .val (.ref b)] [(.ref (own_of st am an ac au)), (.ref b)])) X2 hx rfl rfl rfl (pc0 := 51) (pc' := 54) (same := true) rfl (hb hby at_51) rfl (decide_eq_true (congrArg Value.ref h_b)) (by decide) (by decide) ?_
    show Steps p.tables e below (T2.setTop (mkF m 54 #[.val (.int p1), .val (.int p2), .val (.int (p2 &&& (3 : Int32))), .val (.int st), .val (.ref b)] [])) _
    refine XS.aload X2.here hx rfl (hb hby at_54) rfl rfl ?_
    show Steps p.tables e below (T2.setTop (mkF m 56 #[.val (.int p1), .val (.int p2), .val (.int (p2 &&& (3 : Int32))), .val (.int st), .val (.ref b)] [(.ref b)])) _
    refine st3 _ ?_
    show Steps p.tables e below (T3.setTop (mkF m 59 #[.val (.int p1), .val (.int p2), .val (.int (p2 &&& (3 : Int32))), .val (.int st), .val (.ref b)] [(.ref ar), (.ref b)])) _
    refine Jvm.RoadKit.acmp (g := (mkF m 59 #[.val (.int p1), .val (.int p2), .val (.int (p2 &&& (3 : Int32))), .val (.int st), .val (.ref b)] [(.ref ar), (.ref b)])) X3 hx rfl rfl rfl (pc0 := 59) (pc' := 62) (same := false) rfl (hb hby at_59) rfl (decide_eq_false fun q => hne (Value.ref.inj q)) (by decide) (by decide) ?_
    show Steps p.tables e below (T3.setTop (mkF m 62 #[.val (.int p1), .val (.int p2), .val (.int (p2 &&& (3 : Int32))), .val (.int st), .val (.ref b)] [])) _
    refine XS.iconst X3.here hx rfl (hb hby at_62) ?_
    show Steps p.tables e below (T3.setTop (mkF m 63 #[.val (.int p1), .val (.int p2), .val (.int (p2 &&& (3 : Int32))), .val (.int st), .val (.ref b)] [(.int (1 : Int32))])) _
    refine XS.goto X3.here hx rfl (pc0 := 63) (pc' := 67) rfl (hb hby at_63) (by decide) (by decide) ?_
    show Steps p.tables e below (T3.setTop (mkF m 67 #[.val (.int p1), .val (.int p2), .val (.int (p2 &&& (3 : Int32))), .val (.int st), .val (.ref b)] [(.int (1 : Int32))])) _
    exact retN X3 hx (t := .boolean) Bd.returns (by simp) (hb hby at_67) hr
  · show Q_law Z p1 p2 am an ac au ar h0 n0 _ T3.heap _
    rw [e3]
    exact ⟨rfl, N2⟩
set_option maxRecDepth 65536 in
set_option maxHeartbeats 40000000 in
theorem comes_1 {Post : Tables → Env → Array Value → State → Outcome → State → Prop} (hpost : ∀ tb e args s v u, (limb_1_1.after args s (.returned v) u = true ∧ limb_1_2.after args s (.returned v) u = true ∧ True) → FrameEnd s (.returned v) u (Jvm.fieldLocs frame_1_writes args s ++ Jvm.arrayLocs frame_1_arrays args s ++ Jvm.staticLocs frame_1_statics s) 0 0 → Post tb e args s (.returned v) u) :
    ArmFor flags0 classFile x code maxLocals ret World_1 tables_1 room_1 Calls_1 rest_1 Pre_1 Post := by
  intro l hfl _ _ p e ha hc hk s m args below hf hA hF happ hP
  obtain ⟨hcalls, hrest, hpre⟩ := hP
  obtain ⟨-, -, -, hnamed, -, -, -, hat⟩ := (Spec.applies_iff hf).mp happ
  obtain ⟨hg, hn⟩ := and_e (Cond.before_iff.mp (show (Jvm.Cond.and given_1 narrow_1).before args s = true from hpre))
  obtain ⟨hcount, hg0⟩ := and_e hg
  obtain ⟨ga0, hg1⟩ := and_e hg0
  have ga1 := hg1
  obtain ⟨w0, w1, rfl⟩ : ∃ w0 w1 : Value, args = #[w0, w1] := by
    have hs : args.size = 2 := by simpa [Cond.value, given_1] using hcount
    obtain ⟨L⟩ := args
    match L, hs with
    | [w0, w1], _ => exact ⟨w0, w1, rfl⟩
  have hw := fun d (hd : d ∈ tables_1) => atoms_spec (ws := Jvm.Cond.code x code maxLocals ret :: tables_1) hat d (List.mem_cons_of_mem _ hd)
  obtain ⟨i0, ei0⟩ := is_v ga0
  obtain rfl : w0 = (.int i0) := Option.some.inj ei0
  obtain ⟨i1, ei1⟩ := is_v ga1
  obtain rfl : w1 = (.int i1) := Option.some.inj ei1
  obtain ⟨nx_u, hn0⟩ := and_e hn
  obtain ⟨nx_r, hn1⟩ := and_e hn0
  obtain ⟨no_u, hn2⟩ := and_e hn1
  obtain ⟨no_r, hn3⟩ := and_e hn2
  obtain ⟨nx_n, hn4⟩ := and_e hn3
  obtain ⟨no_n, hn5⟩ := and_e hn4
  obtain ⟨nx_m, hn6⟩ := and_e hn5
  obtain ⟨no_m, hn7⟩ := and_e hn6
  obtain ⟨nx_c, hn8⟩ := and_e hn7
  have no_c := hn8
  obtain ⟨am, evm⟩ := exa_v nx_m
  have Sm := Sta.start evm (Or.inr ⟨(hw _ (List.mem_of_getElem? (i := 2) rfl)), (hw _ (List.mem_of_getElem? (i := 17) rfl))⟩)
  have om := eqv_i (Term.int_eval (1)) no_m
  rw [fld_at evm] at om
  obtain ⟨an, evn⟩ := exa_v nx_n
  have Sn := Sta.start evn (Or.inr ⟨(hw _ (List.mem_of_getElem? (i := 2) rfl)), (hw _ (List.mem_of_getElem? (i := 14) rfl))⟩)
  have on := eqv_i (Term.int_eval (2)) no_n
  rw [fld_at evn] at on
  obtain ⟨ac, evc⟩ := exa_v nx_c
  have Sc := Sta.start evc (Or.inr ⟨(hw _ (List.mem_of_getElem? (i := 2) rfl)), (hw _ (List.mem_of_getElem? (i := 20) rfl))⟩)
  have oc := eqv_i (Term.int_eval (3)) no_c
  rw [fld_at evc] at oc
  obtain ⟨au, evu⟩ := exa_v nx_u
  have Su := Sta.start evu (Or.inr ⟨(hw _ (List.mem_of_getElem? (i := 2) rfl)), (hw _ (List.mem_of_getElem? (i := 5) rfl))⟩)
  have ou := eqv_i (Term.int_eval (4)) no_u
  rw [fld_at evu] at ou
  obtain ⟨ar, evr⟩ := exa_v nx_r
  have Sr := Sta.start evr (Or.inr ⟨(hw _ (List.mem_of_getElem? (i := 2) rfl)), (hw _ (List.mem_of_getElem? (i := 12) rfl))⟩)
  have o_r := eqv_i (Term.int_eval (0)) no_r
  rw [fld_at evr] at o_r
  have hmr : am ≠ ar := fun q => by rw [q, o_r] at om; exact absurd (Value.int.inj (Option.some.inj om)) (by decide)
  have hnr : an ≠ ar := fun q => by rw [q, o_r] at on; exact absurd (Value.int.inj (Option.some.inj on)) (by decide)
  have hcr : ac ≠ ar := fun q => by rw [q, o_r] at oc; exact absurd (Value.int.inj (Option.some.inj oc)) (by decide)
  have hur : au ≠ ar := fun q => by rw [q, o_r] at ou; exact absurd (Value.int.inj (Option.some.inj ou)) (by decide)
  obtain ⟨n, o, h1, h2, h3, _, L, rfl, ⟨rfl, N⟩, hq⟩ := rm_law l s _ hw tables_1 i0 i1 am an ac au ar s.heap s.heap.size (Nat.le_refl _) Sm Sn Sc Su Sr hmr hnr hcr hur p e ha hc hk s m _ below hf ((Spec.applies_iff_loose hf).mp happ).1 ⟨rfl, State.Warmed39.refl s, rfl⟩ trivial
  refine ⟨n, _, h1, h2, h3, hpost _ _ _ _ _ _ ⟨Cond.after_iff.mpr rfl, Cond.after_iff.mpr (eq_i res_at (Term.int_eval (1)) rfl), trivial⟩ ⟨hq.1, hq.2.1, (hq.2.2.sift fun y hy => Or.inr (N y hy)).mono (by decide) (by decide)⟩⟩
theorem main_1_1 : Claimed_1_1 := comes_1 fun _ _ _ _ _ _ h hF => ⟨h.1, hF⟩
theorem main_1_2 : Claimed_1_2 := comes_1 fun _ _ _ _ _ _ h hF => ⟨h.2.1, hF⟩
end Jvm.Pilot.@@N@@
namespace Jvm.Pilot.@@N@@
open Jvm Jvm.ClassFile Sem Op Lib Jvm.Free Jvm.Stand Jvm.Pilot.@@N@@.Jvm.D
/-! MADE BY PROGRAM (witnessworld.py) out of the Statement's table words and the real class files: 12 classes; the members and pool entries that the words name. The judged class is class 1, her method 2. -/
namespace start1
open Jvm.ClassFile
def u (s : String) : CpInfo := .utf8 (stringToUtf16 s)
/-- a pool by its gaps: so many unusable entries, then the entry; so many at the end -/
def gap : Nat → List CpInfo → List CpInfo
  | 0, r => r
  | n + 1, r => .unusable :: gap n r
def poolList (es : List (Nat × CpInfo)) (last : Nat) : List CpInfo := es.foldr (fun e r => gap e.1 (e.2 :: r)) (gap last [])
def pool (es : List (Nat × CpInfo)) (last : Nat) : Array CpInfo := ⟨poolList es last⟩
def fileOf (pool : Array CpInfo) (this : Nat) (attrs : Array Attribute := #[]) (ms : Array MethodInfo := #[]) (fl : Nat := 33) (sup : Nat := 0) (ifs : Array Nat := #[]) (fds : Array FieldInfo := #[]) : ClassFile where
  minorVersion := 0
  majorVersion := 65
  constantPool := pool
  accessFlags := fl
  thisClass := this
  superClass := sup
  interfaces := ifs
  fields := fds
  methods := ms
  attributes := attrs
def plain (name : String) (sup : Option ClassId) : Class where
  name := name
  kind := .ordinary
  loader := none
  accessFlags := 33
  super := sup
  interfaces := #[]
  cf := none
  fields := #[]
  methods := #[]
  instanceTypes := #[]
  staticTypes := #[]
  resolved := #[]
  callSites := []
  init := .initialized
  statics := none
  mirror := none

def pool0 : Array CpInfo := pool [(5, u "<init>"), (0, u "()V"), (1, .class_ 10), (1, u "java/lang/Object")] 113

def k0m0 : Method := { name := "<init>", desc := "()V", sig := { parameters := [], returnType := none }, accessFlags := 1, code := none }
/-- java/lang/Object -/
def k0 : Class := { plain "java/lang/Object" none with
  accessFlags := 33
  interfaces := #[]
  cf := some (fileOf pool0 8 #[] #[{ accessFlags := 1, nameIndex := 5, descriptorIndex := 6, attributes := #[] }] 33 0 #[] #[])
  fields := #[]
  methods := #[k0m0]
  instanceTypes := #[]
  staticTypes := #[]
  resolved := Array.replicate 124 none
  statics := none }

def pool1 : Array CpInfo := pool [(2, .class_ 4), (1, u "java/lang/Object"), (0, u "<init>"), (0, u "()V"), (0, .fieldref 8 9), (0, .class_ 10), (0, .nameAndType 11 12), (0, u "com/example/entente/entente/client/CoordinatorException$Reason"), (0, u "UNEXPECTED"), (0, u "Lcom/example/entente/entente/client/CoordinatorException$Reason;"), (0, .fieldref 8 14), (0, .nameAndType 15 12), (0, u "MALFORMED"), (0, .fieldref 8 17), (0, .nameAndType 18 12), (0, u "NOT_FOUND"), (0, .fieldref 8 20), (0, .nameAndType 21 12), (0, u "CONFLICT"), (0, .methodref 8 23), (0, .nameAndType 24 25), (0, u "ofStatus"), (0, u "(I)Lcom/example/entente/entente/client/CoordinatorException$Reason;"), (0, .methodref 27 28), (0, .class_ 29), (0, .nameAndType 30 25), (0, u "com/example/entente/entente/client/ReasonOfStatusPinLaw"), (0, u "expected"), (0, .fieldref 8 32), (0, .nameAndType 33 12), (0, u "UNREACHABLE"), (3, u "law"), (0, u "(II)Z")] 6

def k1m0 : Method := { name := "<init>", desc := "()V", sig := { parameters := [], returnType := none }, accessFlags := 2, code := none }
def k1c1 : Code := { maxStack := 2, maxLocals := 2, code := method_2_code, exceptionTable := #[], attributes := #[] }
def k1m1 : Method := { name := "expected", desc := "(I)Lcom/example/entente/entente/client/CoordinatorException$Reason;", sig := { parameters := [.int], returnType := some (.object "com/example/entente/entente/client/CoordinatorException$Reason") }, accessFlags := 10, code := some k1c1 }
def k1c2 : Code := { maxStack := 3, maxLocals := 5, code := code, exceptionTable := #[], attributes := #[] }
def k1m2 : Method := { name := "law", desc := "(II)Z", sig := { parameters := [.int, .int], returnType := some .boolean }, accessFlags := 9, code := some k1c2 }
/-- com/example/entente/entente/client/ReasonOfStatusPinLaw -/
def k1 : Class := { plain "com/example/entente/entente/client/ReasonOfStatusPinLaw" (some 0) with
  accessFlags := 49
  interfaces := #[]
  cf := some (fileOf pool1 27 #[] #[{ accessFlags := 2, nameIndex := 5, descriptorIndex := 6, attributes := #[] }, { accessFlags := 10, nameIndex := 30, descriptorIndex := 25, attributes := #[] }, { accessFlags := 9, nameIndex := 37, descriptorIndex := 38, attributes := #[] }] 49 2 #[] #[])
  fields := #[]
  methods := #[k1m0, k1m1, k1m2]
  instanceTypes := #[]
  staticTypes := #[]
  resolved := Array.replicate 45 none
  statics := none }

def pool2 : Array CpInfo := pool [(1, .class_ 2), (0, u "java/lang/constant/Constable"), (0, .class_ 4), (0, u "java/lang/Object")] 6

/-- java/lang/constant/Constable -/
def k2 : Class := { plain "java/lang/constant/Constable" (some 0) with
  accessFlags := 1537
  interfaces := #[]
  cf := some (fileOf pool2 1 #[] #[] 1537 3 #[] #[])
  fields := #[]
  methods := #[]
  instanceTypes := #[]
  staticTypes := #[]
  resolved := Array.replicate 11 none
  statics := none }

def pool3 : Array CpInfo := pool [(1, .class_ 2), (0, u "java/lang/Comparable"), (0, .class_ 4), (0, u "java/lang/Object")] 7

/-- java/lang/Comparable -/
def k3 : Class := { plain "java/lang/Comparable" (some 0) with
  accessFlags := 1537
  interfaces := #[]
  cf := some (fileOf pool3 1 #[] #[] 1537 3 #[] #[])
  fields := #[]
  methods := #[]
  instanceTypes := #[]
  staticTypes := #[]
  resolved := Array.replicate 12 none
  statics := none }

def pool4 : Array CpInfo := pool [(1, .class_ 2), (0, u "java/io/Serializable"), (0, .class_ 4), (0, u "java/lang/Object")] 2

/-- java/io/Serializable -/
def k4 : Class := { plain "java/io/Serializable" (some 0) with
  accessFlags := 1537
  interfaces := #[]
  cf := some (fileOf pool4 1 #[] #[] 1537 3 #[] #[])
  fields := #[]
  methods := #[]
  instanceTypes := #[]
  staticTypes := #[]
  resolved := Array.replicate 7 none
  statics := none }

def pool5 : Array CpInfo := pool [(2, .class_ 4), (1, u "java/lang/Enum"), (0, u "name"), (0, u "Ljava/lang/String;"), (2, u "ordinal"), (0, u "I"), (1, .class_ 14), (1, u "java/lang/Object"), (4, u "hash"), (86, .class_ 108), (1, u "java/lang/Enum$EnumDesc"), (2, .class_ 112), (0, u "java/lang/constant/Constable"), (0, .class_ 114), (0, u "java/lang/Comparable"), (0, .class_ 116), (0, u "java/io/Serializable")] 87

/-- java/lang/Enum -/
def k5 : Class := { plain "java/lang/Enum" (some 0) with
  accessFlags := 1057
  interfaces := #[2, 3, 4]
  cf := some (fileOf pool5 2 #[.nestMembers #[106]] #[] 1057 12 #[111, 113, 115] #[{ accessFlags := 18, nameIndex := 5, descriptorIndex := 6, attributes := #[] }, { accessFlags := 18, nameIndex := 9, descriptorIndex := 10, attributes := #[] }, { accessFlags := 2, nameIndex := 19, descriptorIndex := 10, attributes := #[] }])
  fields := #[{ name := "name", type := (.object "java/lang/String"), accessFlags := 18, slot := 0, constantValue := 0 }, { name := "ordinal", type := .int, accessFlags := 18, slot := 1, constantValue := 0 }, { name := "hash", type := .int, accessFlags := 2, slot := 2, constantValue := 0 }]
  methods := #[]
  instanceTypes := #[(.object "java/lang/String"), .int, .int]
  staticTypes := #[]
  resolved := Array.replicate 204 none
  statics := none }

def pool6 : Array CpInfo := pool [(1, .class_ 2), (0, u "com/example/entente/entente/client/CoordinatorException$Reason"), (2, u "UNREACHABLE"), (0, u "Lcom/example/entente/entente/client/CoordinatorException$Reason;"), (0, .fieldref 1 8), (0, .nameAndType 9 6), (0, u "MALFORMED"), (0, .fieldref 1 11), (0, .nameAndType 12 6), (0, u "NOT_FOUND"), (0, .fieldref 1 14), (0, .nameAndType 15 6), (0, u "CONFLICT"), (0, .fieldref 1 17), (0, .nameAndType 18 6), (0, u "UNEXPECTED"), (2, u "$VALUES"), (0, u "[Lcom/example/entente/entente/client/CoordinatorException$Reason;"), (6, .class_ 31), (1, u "java/lang/Enum"), (8, u "words"), (0, u "Ljava/lang/String;"), (30, u "ofStatus"), (0, u "(I)Lcom/example/entente/entente/client/CoordinatorException$Reason;"), (7, .class_ 82), (0, u "com/example/entente/entente/client/CoordinatorException")] 2

def k6c0 : Code := { maxStack := 1, maxLocals := 1, code := prog_3_method_5_code, exceptionTable := #[], attributes := #[] }
def k6m0 : Method := { name := "ofStatus", desc := "(I)Lcom/example/entente/entente/client/CoordinatorException$Reason;", sig := { parameters := [.int], returnType := some (.object "com/example/entente/entente/client/CoordinatorException$Reason") }, accessFlags := 8, code := some k6c0 }
/-- com/example/entente/entente/client/CoordinatorException$Reason -/
def k6 : Class := { plain "com/example/entente/entente/client/CoordinatorException$Reason" (some 5) with
  accessFlags := 16433
  interfaces := #[]
  cf := some (fileOf pool6 1 #[.nestHost 81] #[{ accessFlags := 8, nameIndex := 72, descriptorIndex := 73, attributes := #[] }] 16433 29 #[] #[{ accessFlags := 16409, nameIndex := 5, descriptorIndex := 6, attributes := #[] }, { accessFlags := 16409, nameIndex := 9, descriptorIndex := 6, attributes := #[] }, { accessFlags := 16409, nameIndex := 12, descriptorIndex := 6, attributes := #[] }, { accessFlags := 16409, nameIndex := 15, descriptorIndex := 6, attributes := #[] }, { accessFlags := 16409, nameIndex := 18, descriptorIndex := 6, attributes := #[] }, { accessFlags := 18, nameIndex := 40, descriptorIndex := 41, attributes := #[] }, { accessFlags := 4122, nameIndex := 21, descriptorIndex := 22, attributes := #[] }])
  fields := #[{ name := "UNREACHABLE", type := (.object "com/example/entente/entente/client/CoordinatorException$Reason"), accessFlags := 16409, slot := 0, constantValue := 0 }, { name := "MALFORMED", type := (.object "com/example/entente/entente/client/CoordinatorException$Reason"), accessFlags := 16409, slot := 1, constantValue := 0 }, { name := "NOT_FOUND", type := (.object "com/example/entente/entente/client/CoordinatorException$Reason"), accessFlags := 16409, slot := 2, constantValue := 0 }, { name := "CONFLICT", type := (.object "com/example/entente/entente/client/CoordinatorException$Reason"), accessFlags := 16409, slot := 3, constantValue := 0 }, { name := "UNEXPECTED", type := (.object "com/example/entente/entente/client/CoordinatorException$Reason"), accessFlags := 16409, slot := 4, constantValue := 0 }, { name := "words", type := (.object "java/lang/String"), accessFlags := 18, slot := 3, constantValue := 0 }, { name := "$VALUES", type := (.array (.object "com/example/entente/entente/client/CoordinatorException$Reason")), accessFlags := 4122, slot := 5, constantValue := 0 }]
  methods := #[k6m0]
  instanceTypes := #[(.object "java/lang/String"), .int, .int, (.object "java/lang/String")]
  staticTypes := #[(.object "com/example/entente/entente/client/CoordinatorException$Reason"), (.object "com/example/entente/entente/client/CoordinatorException$Reason"), (.object "com/example/entente/entente/client/CoordinatorException$Reason"), (.object "com/example/entente/entente/client/CoordinatorException$Reason"), (.object "com/example/entente/entente/client/CoordinatorException$Reason"), (.array (.object "com/example/entente/entente/client/CoordinatorException$Reason"))]
  resolved := Array.replicate 85 none
  statics := some 0 }

def pool7 : Array CpInfo := pool [(1, u "java/lang/Cloneable"), (0, .class_ 1), (0, u "java/lang/Object"), (0, .class_ 3)] 3

/-- java/lang/Cloneable -/
def k7 : Class := { plain "java/lang/Cloneable" (some 0) with
  accessFlags := 1537
  interfaces := #[]
  cf := some (fileOf pool7 2 #[] #[] 1537 4 #[] #[])
  fields := #[]
  methods := #[]
  instanceTypes := #[]
  staticTypes := #[]
  resolved := Array.replicate 8 none
  statics := none }

/-- the primitive byte -/
def k8 : Class := { plain "byte" none with kind := .primitive 'B', accessFlags := 0x411 }
/-- [B -/
def k9 : Class := { plain "[B" (some 0) with kind := .array 8 .byte, interfaces := #[7, 4], accessFlags := 1041 }

/-- the primitive int -/
def k10 : Class := { plain "int" none with kind := .primitive 'I', accessFlags := 0x411 }
/-- [I -/
def k11 : Class := { plain "[I" (some 0) with kind := .array 10 .int, interfaces := #[7, 4], accessFlags := 1041 }

def heap : Heap := #[{ cls := 6, slots := #[.ref 1, .ref 2, .ref 3, .ref 4, .ref 5, .null], vm := .statics 6 },
  { cls := 6, slots := #[.null, .int 0, .int 0, .null], vm := .none },
  { cls := 6, slots := #[.null, .int 1, .int 0, .null], vm := .none },
  { cls := 6, slots := #[.null, .int 2, .int 0, .null], vm := .none },
  { cls := 6, slots := #[.null, .int 3, .int 0, .null], vm := .none },
  { cls := 6, slots := #[.null, .int 4, .int 0, .null], vm := .none }]
def classes : Array Class := #[k0, k1, k2, k3, k4, k5, k6, k7, k8, k9, k10, k11]
def interned : List (Array UInt16 × Addr) := []
def slotsUsed : Nat := 26
def theMethod : MethodId := ⟨1, 2⟩
def args0 : Array Value := #[.int 5, .int 2]
def aboutOver (below : List Frame) : State where
  vm := { classes := classes, interned := interned.toArray }
  heap := heap
  slotsUsed := slotsUsed
  threads := #[{ frames := .invoking theMethod args0 :: below }]
def below0 : List Frame := [.native { method := ⟨0, 0⟩, args := #[] }]
def about1 : State := aboutOver below0
def p0 : Program := .bare "" "" ""
def e0 : Env := launch0.env 0 0 0
theorem w_frames : about1.frames = Frame.invoking theMethod args0 :: below0 := rfl
set_option maxRecDepth 65536 in
theorem w_args : argsFit about1.vm theMethod args0 = true := by decide +kernel
set_option maxRecDepth 65536 in
theorem w_heap : heapFits about1 = true := by decide +kernel
set_option maxRecDepth 65536 in
theorem w_runnable : about1.curStatus? = some .runnable := by decide +kernel
set_option maxRecDepth 65536 in
theorem w_alone : about1.alone = true := by decide +kernel
set_option maxRecDepth 65536 in
theorem w_named : about1.methodNamed? x = some theMethod := by decide +kernel
set_option maxRecDepth 65536 in
theorem w_hears : about1.hears theMethod below0 = true := by decide +kernel
set_option maxRecDepth 65536 in
theorem w_ripe : about1.ripe theMethod args0 below0 = true := by decide +kernel
theorem w_running : about1.status = .running := rfl
set_option maxRecDepth 65536 in
theorem w_room : about1.hasRoom e0.platform room_1 = true :=
  launch0.hasRoom_least _ room_1 (by decide +kernel) (by decide +kernel) (by decide +kernel) (by decide +kernel) (by decide +kernel) (by decide +kernel)
theorem allAtoms_all (ts : List Jvm.Cond) (a : Array Jvm.Value) (st : Jvm.State) : (allAtoms ts).before a st = ts.all (fun c => c.before a st) := by
  induction ts with
  | nil => rfl
  | cons c t ih =>
    show (Jvm.Cond.and c (allAtoms t)).before a st = _
    rw [Jvm.Cond.before_and, ih, List.all_cons]
def words1 : List Jvm.Cond := Jvm.Cond.code x code maxLocals ret :: tables_1
/-- a 'code' word, met by the world's own term for the bytes: nothing is compared byte by byte -/
theorem code_word {y : MethodName} {bytes : ByteArray} {mx : Nat} {rt : Option FieldType} {a : Array Value} {s : State} {m : MethodId} {meth : Method} {c : Code} (h1 : s.methodNamed? y = some m) (h2 : s.vm.method? m = some meth) (h3 : meth.code = some c) (h4 : c.code = bytes)
    (h5 : (c.maxLocals == mx && c.exceptionTable.isEmpty && decide (c.maxStack ≤ mostOperands) && decide (meth.sig.returnType = rt) && !meth.locks && decide (parseMethodDescriptor y.desc = some meth.sig)) = true) : (Jvm.Cond.code y bytes mx rt).before a s = true := by
  simp only [Bool.and_eq_true, beq_iff_eq, Bool.not_eq_true', decide_eq_true_eq] at h5
  obtain ⟨⟨⟨⟨⟨g1, g2⟩, g3⟩, g4⟩, g5⟩, g6⟩ := h5
  simp [Cond.before, Cond.holds, Cond.value, h1, h2, h3, h4, g1, g2, g3, g4, g5, g6]
def isCode : Jvm.Cond → Bool
  | .code _ _ _ _ => true
  | _ => false
theorem all_split {L : List Jvm.Cond} {P : Jvm.Cond → Bool} (h1 : L.all (fun c => isCode c || P c) = true) (h2 : ∀ c ∈ L.filter isCode, P c = true) : L.all P = true := by
  refine List.all_eq_true.mpr fun c hc => ?_
  have h := List.all_eq_true.mp h1 c hc
  rcases Bool.eq_false_or_eq_true (isCode c) with hi | hi
  · exact h2 c (List.mem_filter.mpr ⟨hc, hi⟩)
  · simpa [hi] using h
set_option maxRecDepth 65536 in
theorem w_c0 : (Jvm.Cond.code x code maxLocals ret).before args0 about1 = true := code_word (m := ⟨1, 2⟩) (meth := k1m2) (c := k1c2) (by decide +kernel) rfl rfl rfl (by decide +kernel)
set_option maxRecDepth 65536 in
theorem w_c1 : (Jvm.Cond.code ({ cls := "com/example/entente/entente/client/CoordinatorException$Reason", name := "ofStatus", desc := "(I)Lcom/example/entente/entente/client/CoordinatorException$Reason;" } : Jvm.MethodName) prog_3_method_5_code (1 : Nat) (Option.some (Jvm.ClassFile.FieldType.object "com/example/entente/entente/client/CoordinatorException$Reason"))).before args0 about1 = true := code_word (m := ⟨6, 0⟩) (meth := k6m0) (c := k6c0) (by decide +kernel) rfl rfl rfl (by decide +kernel)
set_option maxRecDepth 65536 in
theorem w_c2 : (Jvm.Cond.code ({ cls := "com/example/entente/entente/client/ReasonOfStatusPinLaw", name := "expected", desc := "(I)Lcom/example/entente/entente/client/CoordinatorException$Reason;" } : Jvm.MethodName) method_2_code (2 : Nat) (Option.some (Jvm.ClassFile.FieldType.object "com/example/entente/entente/client/CoordinatorException$Reason"))).before args0 about1 = true := code_word (m := ⟨1, 1⟩) (meth := k1m1) (c := k1c1) (by decide +kernel) rfl rfl rfl (by decide +kernel)
def codes1 : List Jvm.Cond := [Jvm.Cond.code x code maxLocals ret, Jvm.Cond.code ({ cls := "com/example/entente/entente/client/CoordinatorException$Reason", name := "ofStatus", desc := "(I)Lcom/example/entente/entente/client/CoordinatorException$Reason;" } : Jvm.MethodName) prog_3_method_5_code (1 : Nat) (Option.some (Jvm.ClassFile.FieldType.object "com/example/entente/entente/client/CoordinatorException$Reason")), Jvm.Cond.code ({ cls := "com/example/entente/entente/client/ReasonOfStatusPinLaw", name := "expected", desc := "(I)Lcom/example/entente/entente/client/CoordinatorException$Reason;" } : Jvm.MethodName) method_2_code (2 : Nat) (Option.some (Jvm.ClassFile.FieldType.object "com/example/entente/entente/client/CoordinatorException$Reason"))]
set_option maxRecDepth 65536 in
theorem codes_eq : words1.filter isCode = codes1 := rfl
theorem w_codes : ∀ c ∈ words1.filter isCode, c.before args0 about1 = true := by
  rw [codes_eq]
  intro c hc
  simp only [codes1, List.mem_cons, List.not_mem_nil, or_false] at hc
  rcases hc with rfl | rfl | rfl
  · exact w_c0
  · exact w_c1
  · exact w_c2
set_option maxRecDepth 65536 in
theorem w_t1 : words1.all (fun c => isCode c || c.before args0 about1) = true := by decide +kernel
theorem w_tables : (allAtoms (Jvm.Cond.code x code maxLocals ret :: tables_1)).before args0 about1 = true := by
  rw [allAtoms_all]
  show words1.all (fun c => c.before args0 about1) = true
  refine all_split ?_ w_codes
  rw [w_t1]
set_option maxRecDepth 65536 in
theorem w_case : (Jvm.Cond.and given_1 narrow_1).before args0 about1 = true := by decide +kernel
theorem w_applies : (headSpec (Jvm.Cond.code x code maxLocals ret :: tables_1) room_1).applies x e0.platform about1 = true :=
  (Spec.applies_iff w_frames).mpr ⟨w_running, w_runnable, w_alone, w_named, w_hears, w_ripe, w_room, w_tables⟩
theorem atStart : AtStart classFile x code maxLocals ret World_1 tables_1 room_1 Calls_1 rest_1 Pre_1 launch0 p0 e0 about1 theMethod args0 below0 :=
  ⟨lists_1, trivial, launch0.admits_env _ _ _, launch0.least_env, fairChoices_fair.cas, fairChoices_fair.clock, w_frames, w_args, w_heap, w_applies, trivial, trivial, w_case⟩
end start1
theorem witness_1 : WitnessClaimed_1 := ⟨start1.p0, start1.e0, start1.about1, start1.theMethod, start1.args0, start1.below0, start1.atStart⟩
end Jvm.Pilot.@@N@@
