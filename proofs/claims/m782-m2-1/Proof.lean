import JvmDerived
import JvmDerived.Pilot.@@N@@Statement
import JvmDerived.Pilot.@@N@@Code
set_option linter.unusedVariables false
set_option linter.unusedSimpArgs false
namespace Jvm.Pilot.@@N@@
open Jvm Jvm.ClassFile Sem Op Lib Jvm.Free Jvm.Stand Jvm.LawKit Jvm.RoadKit Bundle Jvm.Pilot.@@N@@.Jvm.D
def own_max (a b : Int64) : Int64 := if a < b then b else a
def own_sa (s a : Int64) : Int64 := if s < (4096 : Int64) then a else own_max a (64 : Int64)
def own_good (al : Int64) (r : Int64) : Bool := decide ((0 : Int64) < r) && decide ((r &&& (r - (1 : Int64))) = (0 : Int64)) && decide ((r - (r / al) * al) = (0 : Int64))
def own_goodB (al : Int64) (r : Int64) : Bool := decide ((r - (r / (64 : Int64)) * (64 : Int64)) = (0 : Int64)) && (decide (r = al) || decide (r = (64 : Int64)))
def own_al (k : Int32) : Int64 := ((1 : Int64) <<< (k &&& 0x3f).toInt64)
theorem own_all : ∀ i : Fin 63, (decide (own_al (Int32.ofInt (i.1 : Int)) ≠ 0) && own_good (own_al (Int32.ofInt (i.1 : Int))) (own_al (Int32.ofInt (i.1 : Int))) && own_good (own_al (Int32.ofInt (i.1 : Int))) (own_max (own_al (Int32.ofInt (i.1 : Int))) 64) && own_goodB (own_al (Int32.ofInt (i.1 : Int))) (own_max (own_al (Int32.ofInt (i.1 : Int))) 64)) = true := by decide +kernel
theorem own_k (x : Int32) : ∃ i : Fin 63, (x &&& (2147483647 : Int32)) % (63 : Int32) = Int32.ofInt (i.1 : Int) := by
  have h1 := c_mask x (2147483647 : Int32) 31 (by decide) (by decide)
  have h2 := (c_irem (x &&& (2147483647 : Int32)) (63 : Int32) 63 (by decide)).1 (by omega)
  refine ⟨⟨((x &&& (2147483647 : Int32)) % (63 : Int32)).toInt.toNat, by omega⟩, ?_⟩
  apply Int32.toInt_inj.mp
  have h3 : (((((x &&& (2147483647 : Int32)) % (63 : Int32)).toInt.toNat : Nat)) : Int) = ((x &&& (2147483647 : Int32)) % (63 : Int32)).toInt := by omega
  simp only [h3]
  rw [Int32.ofInt_toInt]
theorem own_law (bs : Int64) (x : Int32) : ¬ own_al ((x &&& (2147483647 : Int32)) % (63 : Int32)) = 0 ∧ own_good (own_al ((x &&& (2147483647 : Int32)) % (63 : Int32))) (own_sa bs (own_al ((x &&& (2147483647 : Int32)) % (63 : Int32)))) = true ∧
    (bs < (4096 : Int64) → own_sa bs (own_al ((x &&& (2147483647 : Int32)) % (63 : Int32))) = own_al ((x &&& (2147483647 : Int32)) % (63 : Int32))) ∧ (¬ bs < (4096 : Int64) → own_goodB (own_al ((x &&& (2147483647 : Int32)) % (63 : Int32))) (own_sa bs (own_al ((x &&& (2147483647 : Int32)) % (63 : Int32)))) = true) := by
  obtain ⟨i, hi⟩ := own_k x
  have h := own_all i
  rw [hi]
  simp only [Bool.and_eq_true, decide_eq_true_eq] at h
  obtain ⟨⟨⟨h1, h2⟩, h3⟩, h4⟩ := h
  refine ⟨h1, ?_, ?_, ?_⟩
  · unfold own_sa; split <;> assumption
  · intro q; unfold own_sa; rw [if_pos q]
  · intro q; unfold own_sa; rw [if_neg q]; exact h4
theorem own_djdk_29_66_0 : decode jdk_29_method_66_code 0 = .ok (.lload_n 0, 1) := by decide +kernel
theorem own_djdk_29_66_1 : decode jdk_29_method_66_code 1 = .ok (.lload_n 2, 1) := by decide +kernel
theorem own_djdk_29_66_2 : decode jdk_29_method_66_code 2 = .ok (.lcmp, 1) := by decide +kernel
theorem own_djdk_29_66_3 : decode jdk_29_method_66_code 3 = .ok (.ifCond .lt 7, 3) := by decide +kernel
theorem own_djdk_29_66_6 : decode jdk_29_method_66_code 6 = .ok (.lload_n 0, 1) := by decide +kernel
theorem own_djdk_29_66_7 : decode jdk_29_method_66_code 7 = .ok (.goto 4, 3) := by decide +kernel
theorem own_djdk_29_66_10 : decode jdk_29_method_66_code 10 = .ok (.lload_n 2, 1) := by decide +kernel
theorem own_djdk_29_66_11 : decode jdk_29_method_66_code 11 = .ok (.lreturn, 1) := by decide +kernel
theorem own_ef_max (m : MethodId) (x0 : Int64) (x1 : Int64) : entryFrame m #[(.long x0), (.long x1)] 4 = mkF m 0 #[.val (.long x0), .second, .val (.long x1), .second] [] := by first | (simp [entryFrame, mkF, argsToLocals, Value.category]; done) | rfl
def Q_max (Z : State) (q1 : Int64) (q2 : Int64) (h0 : Heap) (n0 : Nat) (v : Option Value) (h : Heap) (L : List Loc) : Prop := v = some (.long (own_max q1 q2)) ∧ Fr n0 L ∧ h = h0
set_option maxRecDepth 65536 in
set_option maxHeartbeats 40000000 in
theorem rm_max (l : Launch) (Z : State) (a0 : Array Value) (hw : ∀ d ∈ tables_1, d.before a0 Z = true) (ws : List Jvm.Cond) (q1 : Int64) (q2 : Int64) (h0 : Heap) (n0 : Nat) (Z0 : n0 ≤ h0.size)  :
    MetFree l (⟨"java/lang/Math", "max", "(JJ)J"⟩ : MethodName) (head1 (Jvm.Cond.code (⟨"java/lang/Math", "max", "(JJ)J"⟩ : MethodName) jdk_29_method_66_code 4 (some .long) :: ws) ({ frames := 0, cells := 0, slots := 0, locals := 0 } : Room)) (fun a U => a = #[(.long q1), (.long q2)] ∧ Z.Warmed39 U.vm ∧ U.heap = h0) (fun _ _ _ _ _ => True) (fun _ U o U' => ∃ v L, o = .returned v ∧ Q_max Z q1 q2 h0 n0 v U'.heap L ∧ FrameEnd U o U' L ({ frames := 0, cells := 0, slots := 0, locals := 0 } : Room).cells ({ frames := 0, cells := 0, slots := 0, locals := 0 } : Room).slots) := by
  refine MetFree.of_bodySF (Jvm.Free.JP.mathPlain rfl (by decide +kernel)) hisR ?_
  intro p e s m args below meth c s₁ Bd hml0 hP hK
  obtain ⟨rfl, hZ, hh⟩ := hP
  have hx := Bd.exec
  have hby := Bd.bytes
  have hml : c.maxLocals = 4 := hml0
  have hown : s.vm.findClass "java/lang/Math" = some m.cls := findClass_of_methodNamed Bd.named
  have hnm := (name_of_methodNamed Bd.named Bd.method).1
  have X0 : Stand p l e ({ frames := 0, cells := 0, slots := 0, locals := 0 } : Room) s m #[(.long q1), (.long q2)] below meth c s₁ [] 0 0 := Stand.of_body Bd
  have e0 : s₁.heap = h0 := by rw [← hh, Bd.state]; rfl
  have N0 := Fr.nil n0
  have pre0 : ∀ t, Steps p.tables e below (s₁.setTop (mkF m 0 #[.val (.long q1), .second, .val (.long q2), .second] [])) t → Steps p.tables e below (s₁.setTop (entryFrame m #[(.long q1), (.long q2)] 4)) t := fun t k => castTop (own_ef_max m q1 q2) k
  obtain ⟨r, h_r⟩ : ∃ z : Int64, z = (if q1 < q2 then q2 else q1) := ⟨_, rfl⟩
  obtain ⟨fs, hr, hrun, hended, hW, hsame⟩ := X0.leave (v := some (.long r)) (fun h => by rw [Bd.returns] at h; cases h)
  refine ⟨_, _, pre0 _ ?_, hrun, hended, _, _, rfl, ?_, ⟨_, rfl⟩, hW, hsame.mono (by decide) (by decide)⟩
  · show Steps p.tables e below (s₁.setTop (mkF m 0 #[.val (.long q1), .second, .val (.long q2), .second] [])) _
    refine XS.lloadN X0.here hx rfl (hb hby own_djdk_29_66_0) rfl ?_
    show Steps p.tables e below (s₁.setTop (mkF m 1 #[.val (.long q1), .second, .val (.long q2), .second] [(.long q1)])) _
    refine XS.lloadN X0.here hx rfl (hb hby own_djdk_29_66_1) rfl ?_
    show Steps p.tables e below (s₁.setTop (mkF m 2 #[.val (.long q1), .second, .val (.long q2), .second] [(.long q2), (.long q1)])) _
    refine XS.lcmp X0.here hx rfl (hb hby own_djdk_29_66_2) rfl ?_
    show Steps p.tables e below (s₁.setTop (mkF m 3 #[.val (.long q1), .second, .val (.long q2), .second] [(.int (lcmpW q1 q2))])) _
    refine (show ∀ tt, Steps p.tables e below (s₁.setTop (mkF m 11 #[.val (.long q1), .second, .val (.long q2), .second] [(.long r)])) tt → Steps p.tables e below (s₁.setTop (mkF m 3 #[.val (.long q1), .second, .val (.long q2), .second] [(.int (lcmpW q1 q2))])) tt from ?_) _ ?_
    · intro tt kt
      by_cases hc : q1 < q2
      · rw [h_r, if_pos hc] at kt
        show Steps p.tables e below (s₁.setTop (mkF m 3 #[.val (.long q1), .second, .val (.long q2), .second] [(.int (lcmpW q1 q2))])) _
        refine XS.ifYes X0.here hx rfl (pc0 := 3) (pc' := 10) rfl (hb hby own_djdk_29_66_3) rfl (Jvm.Free.XT.ll_lt_t hc) (by decide) (by decide) ?_
        show Steps p.tables e below (s₁.setTop (mkF m 10 #[.val (.long q1), .second, .val (.long q2), .second] [])) _
        refine XS.lloadN X0.here hx rfl (hb hby own_djdk_29_66_10) rfl ?_
        exact kt
      · rw [h_r, if_neg hc] at kt
        show Steps p.tables e below (s₁.setTop (mkF m 3 #[.val (.long q1), .second, .val (.long q2), .second] [(.int (lcmpW q1 q2))])) _
        refine XS.ifNo X0.here hx rfl (hb hby own_djdk_29_66_3) rfl (Jvm.Free.XT.ll_lt_f hc) ?_
        show Steps p.tables e below (s₁.setTop (mkF m 6 #[.val (.long q1), .second, .val (.long q2), .second] [])) _
        refine XS.lloadN X0.here hx rfl (hb hby own_djdk_29_66_6) rfl ?_
        show Steps p.tables e below (s₁.setTop (mkF m 7 #[.val (.long q1), .second, .val (.long q2), .second] [(.long q1)])) _
        refine XS.goto X0.here hx rfl (pc0 := 7) (pc' := 11) rfl (hb hby own_djdk_29_66_7) (by decide) (by decide) ?_
        exact kt
    show Steps p.tables e below (s₁.setTop (mkF m 11 #[.val (.long q1), .second, .val (.long q2), .second] [(.long r)])) _
    exact retOut X0 hx Bd.returns rfl (Or.inr (Or.inl ⟨rfl, rfl, _, rfl⟩)) (hb hby own_djdk_29_66_11) hr
  · show Q_max Z q1 q2 h0 n0 _ s₁.heap _
    rw [e0]
    exact ⟨(by rw [h_r]; rfl), N0, rfl⟩
theorem own_dprog_33_11_0 : decode prog_33_method_11_code 0 = .ok (.lload_n 0, 1) := by decide +kernel
theorem own_dprog_33_11_1 : decode prog_33_method_11_code 1 = .ok (.ldc2_w 96, 3) := by decide +kernel
theorem own_dprog_33_11_4 : decode prog_33_method_11_code 4 = .ok (.lcmp, 1) := by decide +kernel
theorem own_dprog_33_11_5 : decode prog_33_method_11_code 5 = .ok (.ifCond .lt 13, 3) := by decide +kernel
theorem own_dprog_33_11_8 : decode prog_33_method_11_code 8 = .ok (.lload_n 2, 1) := by decide +kernel
theorem own_dprog_33_11_9 : decode prog_33_method_11_code 9 = .ok (.ldc2_w 98, 3) := by decide +kernel
theorem own_dprog_33_11_12 : decode prog_33_method_11_code 12 = .ok (.invokestatic 91, 3) := by decide +kernel
theorem own_dprog_33_11_15 : decode prog_33_method_11_code 15 = .ok (.goto 4, 3) := by decide +kernel
theorem own_dprog_33_11_18 : decode prog_33_method_11_code 18 = .ok (.lload_n 2, 1) := by decide +kernel
theorem own_dprog_33_11_19 : decode prog_33_method_11_code 19 = .ok (.lreturn, 1) := by decide +kernel
theorem own_pd0 : parseMethodDescriptor "(JJ)J" = some ⟨[.long, .long], some .long⟩ := by decide +kernel
theorem own_pn_com_example_hinterland_hinterland_internal_NativeAllocator : plainName "com/example/hinterland/hinterland/internal/NativeAllocator" = true := by first | (simp [plainName, overriddenIn]; done) | decide +kernel
theorem own_ef_sa (m : MethodId) (x0 : Int64) (x1 : Int64) : entryFrame m #[(.long x0), (.long x1)] 4 = mkF m 0 #[.val (.long x0), .second, .val (.long x1), .second] [] := by first | (simp [entryFrame, mkF, argsToLocals, Value.category]; done) | rfl
def Q_sa (Z : State) (q1 : Int64) (q2 : Int64) (h0 : Heap) (n0 : Nat) (v : Option Value) (h : Heap) (L : List Loc) : Prop := v = some (.long (own_sa q1 q2)) ∧ Fr n0 L ∧ h = h0
set_option maxRecDepth 65536 in
set_option maxHeartbeats 40000000 in
theorem rm_sa (l : Launch) (Z : State) (a0 : Array Value) (hw : ∀ d ∈ tables_1, d.before a0 Z = true) (ws : List Jvm.Cond) (q1 : Int64) (q2 : Int64) (h0 : Heap) (n0 : Nat) (Z0 : n0 ≤ h0.size)  :
    MetFree l (⟨"com/example/hinterland/hinterland/internal/NativeAllocator", "startAlignment", "(JJ)J"⟩ : MethodName) (head1 (Jvm.Cond.code (⟨"com/example/hinterland/hinterland/internal/NativeAllocator", "startAlignment", "(JJ)J"⟩ : MethodName) prog_33_method_11_code 4 (some .long) :: ws) ({ frames := 1, cells := 0, slots := 0, locals := 15 } : Room)) (fun a U => a = #[(.long q1), (.long q2)] ∧ Z.Warmed39 U.vm ∧ U.heap = h0) (fun _ _ _ _ _ => True) (fun _ U o U' => ∃ v L, o = .returned v ∧ Q_sa Z q1 q2 h0 n0 v U'.heap L ∧ FrameEnd U o U' L ({ frames := 1, cells := 0, slots := 0, locals := 15 } : Room).cells ({ frames := 1, cells := 0, slots := 0, locals := 15 } : Room).slots) := by
  refine MetFree.of_bodySF (plainFor_of_name own_pn_com_example_hinterland_hinterland_internal_NativeAllocator) hisR ?_
  intro p e s m args below meth c s₁ Bd hml0 hP hK
  obtain ⟨rfl, hZ, hh⟩ := hP
  have hx := Bd.exec
  have hby := Bd.bytes
  have hml : c.maxLocals = 4 := hml0
  have hown : s.vm.findClass "com/example/hinterland/hinterland/internal/NativeAllocator" = some m.cls := findClass_of_methodNamed Bd.named
  have hnm := (name_of_methodNamed Bd.named Bd.method).1
  have X0 : Stand p l e ({ frames := 1, cells := 0, slots := 0, locals := 15 } : Room) s m #[(.long q1), (.long q2)] below meth c s₁ [] 0 0 := Stand.of_body Bd
  have e0 : s₁.heap = h0 := by rw [← hh, Bd.state]; rfl
  have N0 := Fr.nil n0
  have pre0 : ∀ t, Steps p.tables e below (s₁.setTop (mkF m 0 #[.val (.long q1), .second, .val (.long q2), .second] [])) t → Steps p.tables e below (s₁.setTop (entryFrame m #[(.long q1), (.long q2)] 4)) t := fun t k => castTop (own_ef_sa m q1 q2) k
  by_cases hc : q1 < (4096 : Int64)
  · obtain ⟨fs, hr, hrun, hended, hW, hsame⟩ := X0.leave (v := some (.long q2)) (fun h => by rw [Bd.returns] at h; cases h)
    refine ⟨_, _, pre0 _ ?_, hrun, hended, _, _, rfl, ?_, ⟨_, rfl⟩, hW, hsame.mono (by decide) (by decide)⟩
    · show Steps p.tables e below (s₁.setTop (mkF m 0 #[.val (.long q1), .second, .val (.long q2), .second] [])) _
      refine XS.lloadN X0.here hx rfl (hb hby own_dprog_33_11_0) rfl ?_
      show Steps p.tables e below (s₁.setTop (mkF m 1 #[.val (.long q1), .second, .val (.long q2), .second] [(.long q1)])) _
      refine X0.ldc2J hx (v := (4096 : Int64)) hown (mvT hZ (hw _ (List.mem_of_getElem? (i := 7) rfl))) (g := (mkF m 1 #[.val (.long q1), .second, .val (.long q2), .second] [(.long q1)])) rfl (hb hby own_dprog_33_11_1) ?_
      show Steps p.tables e below (s₁.setTop (mkF m 4 #[.val (.long q1), .second, .val (.long q2), .second] [(.long (4096 : Int64)), (.long q1)])) _
      refine XS.lcmp X0.here hx rfl (hb hby own_dprog_33_11_4) rfl ?_
      show Steps p.tables e below (s₁.setTop (mkF m 5 #[.val (.long q1), .second, .val (.long q2), .second] [(.int (lcmpW q1 (4096 : Int64)))])) _
      refine XS.ifYes X0.here hx rfl (pc0 := 5) (pc' := 18) rfl (hb hby own_dprog_33_11_5) rfl (Jvm.Free.XT.ll_lt_t hc) (by decide) (by decide) ?_
      show Steps p.tables e below (s₁.setTop (mkF m 18 #[.val (.long q1), .second, .val (.long q2), .second] [])) _
      refine XS.lloadN X0.here hx rfl (hb hby own_dprog_33_11_18) rfl ?_
      show Steps p.tables e below (s₁.setTop (mkF m 19 #[.val (.long q1), .second, .val (.long q2), .second] [(.long q2)])) _
      exact retOut X0 hx Bd.returns rfl (Or.inr (Or.inl ⟨rfl, rfl, _, rfl⟩)) (hb hby own_dprog_33_11_19) hr
    · show Q_sa Z q1 q2 h0 n0 _ s₁.heap _
      rw [e0]
      exact ⟨(by unfold own_sa; rw [if_pos hc]), N0, rfl⟩
  · obtain ⟨_, _, ⟨T1, L1, k1, n1⟩, -, X1, ⟨Lc1, hQ1, l1, y1, z1⟩, st1⟩ := Jvm.LawKit.callS X0 hx (y := (⟨"java/lang/Math", "max", "(JJ)J"⟩ : MethodName)) hown (mvT hZ (hw _ (List.mem_of_getElem? (i := 9) rfl))) (mvT hZ (hw _ (List.mem_of_getElem? (i := 10) rfl))) (mvT hZ (hw _ (List.mem_of_getElem? (i := 11) rfl))) (mvT hZ (hw _ (List.mem_of_getElem? (i := 12) rfl))) (by decide) (backOf (W := 0) (rm_max l Z a0 hw [] q2 (64 : Int64) h0 n0 Z0) hZ (hw _ (List.mem_of_getElem? (i := 12) rfl)) (hw _ (List.mem_of_getElem? (i := 11) rfl)) (by decide) (by decide)) (g := (mkF m 12 #[.val (.long q1), .second, .val (.long q2), .second] [(.long (64 : Int64)), (.long q2)])) rfl (by rw [hml]; rfl) (argsL := [(.long q2), (.long (64 : Int64))]) (rest := []) (lenOf own_pd0 rfl) rfl (by show 2 * 0 + _ ≤ _; exact Nat.le_of_eq rfl) (hb hby own_dprog_33_11_12) (fun _ _ => ⟨rfl, e0, (by decide : 0 + 0 ≤ _), (by decide : 0 + 0 ≤ _)⟩)
    dsimp only [Pt.U, Pt.locs, Pt.cells, Pt.slots] at X1 l1 y1 z1 st1 hQ1
    rw [l1, y1, z1] at X1
    obtain ⟨rfl, Nq1, e1⟩ := hQ1
    have N1 := Fr.app N0 Nq1
    obtain ⟨fs, hr, hrun, hended, hW, hsame⟩ := X1.leave (v := some (.long (own_max q2 (64 : Int64)))) (fun h => by rw [Bd.returns] at h; cases h)
    refine ⟨_, _, pre0 _ ?_, hrun, hended, _, _, rfl, ?_, ⟨_, rfl⟩, hW, hsame.mono (by decide) (by decide)⟩
    · show Steps p.tables e below (s₁.setTop (mkF m 0 #[.val (.long q1), .second, .val (.long q2), .second] [])) _
      refine XS.lloadN X0.here hx rfl (hb hby own_dprog_33_11_0) rfl ?_
      show Steps p.tables e below (s₁.setTop (mkF m 1 #[.val (.long q1), .second, .val (.long q2), .second] [(.long q1)])) _
      refine X0.ldc2J hx (v := (4096 : Int64)) hown (mvT hZ (hw _ (List.mem_of_getElem? (i := 7) rfl))) (g := (mkF m 1 #[.val (.long q1), .second, .val (.long q2), .second] [(.long q1)])) rfl (hb hby own_dprog_33_11_1) ?_
      show Steps p.tables e below (s₁.setTop (mkF m 4 #[.val (.long q1), .second, .val (.long q2), .second] [(.long (4096 : Int64)), (.long q1)])) _
      refine XS.lcmp X0.here hx rfl (hb hby own_dprog_33_11_4) rfl ?_
      show Steps p.tables e below (s₁.setTop (mkF m 5 #[.val (.long q1), .second, .val (.long q2), .second] [(.int (lcmpW q1 (4096 : Int64)))])) _
      refine XS.ifNo X0.here hx rfl (hb hby own_dprog_33_11_5) rfl (Jvm.Free.XT.ll_lt_f hc) ?_
      show Steps p.tables e below (s₁.setTop (mkF m 8 #[.val (.long q1), .second, .val (.long q2), .second] [])) _
      refine XS.lloadN X0.here hx rfl (hb hby own_dprog_33_11_8) rfl ?_
      show Steps p.tables e below (s₁.setTop (mkF m 9 #[.val (.long q1), .second, .val (.long q2), .second] [(.long q2)])) _
      refine X0.ldc2J hx (v := (64 : Int64)) hown (mvT hZ (hw _ (List.mem_of_getElem? (i := 8) rfl))) (g := (mkF m 9 #[.val (.long q1), .second, .val (.long q2), .second] [(.long q2)])) rfl (hb hby own_dprog_33_11_9) ?_
      show Steps p.tables e below (s₁.setTop (mkF m 12 #[.val (.long q1), .second, .val (.long q2), .second] [(.long (64 : Int64)), (.long q2)])) _
      refine st1 _ ?_
      show Steps p.tables e below (T1.setTop (mkF m 15 #[.val (.long q1), .second, .val (.long q2), .second] [(.long (own_max q2 (64 : Int64)))])) _
      refine XS.goto X1.here hx rfl (pc0 := 15) (pc' := 19) rfl (hb hby own_dprog_33_11_15) (by decide) (by decide) ?_
      show Steps p.tables e below (T1.setTop (mkF m 19 #[.val (.long q1), .second, .val (.long q2), .second] [(.long (own_max q2 (64 : Int64)))])) _
      exact retOut X1 hx Bd.returns rfl (Or.inr (Or.inl ⟨rfl, rfl, _, rfl⟩)) (hb hby own_dprog_33_11_19) hr
    · show Q_sa Z q1 q2 h0 n0 _ T1.heap _
      rw [e1]
      exact ⟨(by unfold own_sa; rw [if_neg hc]), N1, rfl⟩
theorem own_pn_com_example_hinterland_hinterland_internal_NativeAllocatorStartAlignmentPinLaw : plainName "com/example/hinterland/hinterland/internal/NativeAllocatorStartAlignmentPinLaw" = true := by first | (simp [plainName, overriddenIn]; done) | decide +kernel
theorem own_ef_law (m : MethodId) (x0 : Int64) (x1 : Int32) (x2 : Int32) : entryFrame m #[(.long x0), (.int x1), (.int x2)] maxLocals = mkF m 0 #[.val (.long x0), .second, .val (.int x1), .val (.int x2), .unset, .unset, .unset, .unset, .unset, .unset, .unset, .unset, .unset, .unset, .unset] [] := by first | (simp [entryFrame, mkF, argsToLocals, Value.category, maxLocals]; done) | rfl
def Q_law (Z : State) (q1 : Int64) (p2 : Int32) (p3 : Int32) (h0 : Heap) (n0 : Nat) (v : Option Value) (h : Heap) (L : List Loc) : Prop := v = some (.int 1) ∧ Fr n0 L
set_option maxRecDepth 65536 in
set_option maxHeartbeats 40000000 in
theorem rm_law (l : Launch) (Z : State) (a0 : Array Value) (hw : ∀ d ∈ tables_1, d.before a0 Z = true) (ws : List Jvm.Cond) (q1 : Int64) (p2 : Int32) (p3 : Int32) (h0 : Heap) (n0 : Nat) (Z0 : n0 ≤ h0.size)  :
    MetFree l x (head1 (Jvm.Cond.code x code maxLocals ret :: ws) room_1) (fun a U => a = #[(.long q1), (.int p2), (.int p3)] ∧ Z.Warmed39 U.vm ∧ U.heap = h0) (fun _ _ _ _ _ => True) (fun _ U o U' => ∃ v L, o = .returned v ∧ Q_law Z q1 p2 p3 h0 n0 v U'.heap L ∧ FrameEnd U o U' L room_1.cells room_1.slots) := by
  refine MetFree.of_bodySF (plainFor_of_name own_pn_com_example_hinterland_hinterland_internal_NativeAllocatorStartAlignmentPinLaw) hisR ?_
  intro p e s m args below meth c s₁ Bd hml0 hP hK
  obtain ⟨rfl, hZ, hh⟩ := hP
  have hx := Bd.exec
  have hby := Bd.bytes
  have hml : c.maxLocals = 15 := hml0
  have hown : s.vm.findClass "com/example/hinterland/hinterland/internal/NativeAllocatorStartAlignmentPinLaw" = some m.cls := findClass_of_methodNamed Bd.named
  have hnm := (name_of_methodNamed Bd.named Bd.method).1
  have X0 : Stand p l e room_1 s m #[(.long q1), (.int p2), (.int p3)] below meth c s₁ [] 0 0 := Stand.of_body Bd
  have e0 : s₁.heap = h0 := by rw [← hh, Bd.state]; rfl
  have N0 := Fr.nil n0
  have pre0 : ∀ t, Steps p.tables e below (s₁.setTop (mkF m 0 #[.val (.long q1), .second, .val (.int p2), .val (.int p3), .unset, .unset, .unset, .unset, .unset, .unset, .unset, .unset, .unset, .unset, .unset] [])) t → Steps p.tables e below (s₁.setTop (entryFrame m #[(.long q1), (.int p2), (.int p3)] maxLocals)) t := fun t k => castTop (own_ef_law m q1 p2 p3) k
  obtain ⟨bs, h_bs⟩ : ∃ z : Int64, z = (if (p2 &&& (3 : Int32)) = (1 : Int32) then ((q1 &&& (9223372036854775807 : Int64)) &&& (8191 : Int64)) else (if (p2 &&& (3 : Int32)) = (2 : Int32) then ((4095 : Int64) + ((q1 &&& (9223372036854775807 : Int64)) &&& (1 : Int64))) else (q1 &&& (9223372036854775807 : Int64)))) := ⟨_, rfl⟩
  obtain ⟨al, h_al⟩ : ∃ z : Int64, z = own_al ((p3 &&& (2147483647 : Int32)) % (63 : Int32)) := ⟨_, rfl⟩
  obtain ⟨f1, f2, f3, f4⟩ := own_law bs p3
  rw [← h_al] at f1 f2 f3 f4
  have h_al2 : ((1 : Int64) <<< (((p3 &&& (2147483647 : Int32)) % (63 : Int32)) &&& 0x3f).toInt64) = al := h_al.symm
  obtain ⟨_, _, ⟨T1, L1, k1, n1⟩, -, X1, ⟨Lc1, hQ1, l1, y1, z1⟩, st1⟩ := Jvm.LawKit.callS X0 hx (y := (⟨"com/example/hinterland/hinterland/internal/NativeAllocator", "startAlignment", "(JJ)J"⟩ : MethodName)) hown (mvT hZ (hw _ (List.mem_of_getElem? (i := 3) rfl))) (mvT hZ (hw _ (List.mem_of_getElem? (i := 4) rfl))) (mvT hZ (hw _ (List.mem_of_getElem? (i := 5) rfl))) (mvT hZ (hw _ (List.mem_of_getElem? (i := 6) rfl))) (by decide) (backOf (W := 0) (rm_sa l Z a0 hw [] bs al h0 n0 Z0) hZ (hw _ (List.mem_of_getElem? (i := 6) rfl)) (hw _ (List.mem_of_getElem? (i := 5) rfl)) (by decide) (by decide)) (g := (mkF m 71 #[.val (.long q1), .second, .val (.int p2), .val (.int p3), .val (.long (q1 &&& (9223372036854775807 : Int64))), .second, .val (.int (p2 &&& (3 : Int32))), .val (.long bs), .second, .val (.int ((p3 &&& (2147483647 : Int32)) % (63 : Int32))), .val (.long al), .second, .unset, .unset, .unset] [(.long al), (.long bs)])) rfl (by rw [hml]; rfl) (argsL := [(.long bs), (.long al)]) (rest := []) (lenOf own_pd0 rfl) rfl (by show 2 * 0 + _ ≤ _; exact Nat.le_of_eq rfl) (hb hby at_71) (fun _ _ => ⟨rfl, e0, (by decide : 0 + 0 ≤ _), (by decide : 0 + 0 ≤ _)⟩)
  dsimp only [Pt.U, Pt.locs, Pt.cells, Pt.slots] at X1 l1 y1 z1 st1 hQ1
  rw [l1, y1, z1] at X1
  obtain ⟨rfl, Nq1, e1⟩ := hQ1
  have N1 := Fr.app N0 Nq1
  obtain ⟨r, h_r⟩ : ∃ z : Int64, z = own_sa bs al := ⟨_, rfl⟩
  rw [← h_r] at f2 f3 f4
  have h_r2 : own_sa bs al = r := h_r.symm
  simp only [own_good, Bool.and_eq_true, decide_eq_true_eq] at f2
  simp only [own_goodB, Bool.and_eq_true, Bool.or_eq_true, decide_eq_true_eq] at f4
  by_cases hbs : bs < (4096 : Int64)
  · obtain ⟨fs, hr, hrun, hended, hW, hsame⟩ := X1.leave (v := some (.int (1 : Int32))) (fun h => by rw [Bd.returns] at h; cases h)
    refine ⟨_, _, pre0 _ ?_, hrun, hended, _, _, rfl, ?_, ⟨_, rfl⟩, hW, hsame.mono (by decide) (by decide)⟩
    · show Steps p.tables e below (s₁.setTop (mkF m 0 #[.val (.long q1), .second, .val (.int p2), .val (.int p3), .unset, .unset, .unset, .unset, .unset, .unset, .unset, .unset, .unset, .unset, .unset] [])) _
      refine XS.lloadN X0.here hx rfl (hb hby at_0) rfl ?_
      show Steps p.tables e below (s₁.setTop (mkF m 1 #[.val (.long q1), .second, .val (.int p2), .val (.int p3), .unset, .unset, .unset, .unset, .unset, .unset, .unset, .unset, .unset, .unset, .unset] [(.long q1)])) _
      refine X0.ldc2J hx (v := (9223372036854775807 : Int64)) hown (mvT hZ (hw _ (List.mem_of_getElem? (i := 0) rfl))) (g := (mkF m 1 #[.val (.long q1), .second, .val (.int p2), .val (.int p3), .unset, .unset, .unset, .unset, .unset, .unset, .unset, .unset, .unset, .unset, .unset] [(.long q1)])) rfl (hb hby at_1) ?_
      show Steps p.tables e below (s₁.setTop (mkF m 4 #[.val (.long q1), .second, .val (.int p2), .val (.int p3), .unset, .unset, .unset, .unset, .unset, .unset, .unset, .unset, .unset, .unset, .unset] [(.long (9223372036854775807 : Int64)), (.long q1)])) _
      refine XS.land X0.here hx rfl (hb hby at_4) rfl ?_
      show Steps p.tables e below (s₁.setTop (mkF m 5 #[.val (.long q1), .second, .val (.int p2), .val (.int p3), .unset, .unset, .unset, .unset, .unset, .unset, .unset, .unset, .unset, .unset, .unset] [(.long (q1 &&& (9223372036854775807 : Int64)))])) _
      refine XS.lstore X0.here hx rfl (hb hby at_5) rfl (l' := #[.val (.long q1), .second, .val (.int p2), .val (.int p3), .val (.long (q1 &&& (9223372036854775807 : Int64))), .second, .unset, .unset, .unset, .unset, .unset, .unset, .unset, .unset, .unset]) rfl ?_
      show Steps p.tables e below (s₁.setTop (mkF m 7 #[.val (.long q1), .second, .val (.int p2), .val (.int p3), .val (.long (q1 &&& (9223372036854775807 : Int64))), .second, .unset, .unset, .unset, .unset, .unset, .unset, .unset, .unset, .unset] [])) _
      refine XS.iloadN X0.here hx rfl (hb hby at_7) rfl ?_
      show Steps p.tables e below (s₁.setTop (mkF m 8 #[.val (.long q1), .second, .val (.int p2), .val (.int p3), .val (.long (q1 &&& (9223372036854775807 : Int64))), .second, .unset, .unset, .unset, .unset, .unset, .unset, .unset, .unset, .unset] [(.int p2)])) _
      refine XS.iconst X0.here hx rfl (hb hby at_8) ?_
      show Steps p.tables e below (s₁.setTop (mkF m 9 #[.val (.long q1), .second, .val (.int p2), .val (.int p3), .val (.long (q1 &&& (9223372036854775807 : Int64))), .second, .unset, .unset, .unset, .unset, .unset, .unset, .unset, .unset, .unset] [(.int (3 : Int32)), (.int p2)])) _
      refine XS.iand X0.here hx rfl (hb hby at_9) rfl ?_
      show Steps p.tables e below (s₁.setTop (mkF m 10 #[.val (.long q1), .second, .val (.int p2), .val (.int p3), .val (.long (q1 &&& (9223372036854775807 : Int64))), .second, .unset, .unset, .unset, .unset, .unset, .unset, .unset, .unset, .unset] [(.int (p2 &&& (3 : Int32)))])) _
      refine XS.istore X0.here hx rfl (hb hby at_10) rfl (l' := #[.val (.long q1), .second, .val (.int p2), .val (.int p3), .val (.long (q1 &&& (9223372036854775807 : Int64))), .second, .val (.int (p2 &&& (3 : Int32))), .unset, .unset, .unset, .unset, .unset, .unset, .unset, .unset]) rfl ?_
      show Steps p.tables e below (s₁.setTop (mkF m 12 #[.val (.long q1), .second, .val (.int p2), .val (.int p3), .val (.long (q1 &&& (9223372036854775807 : Int64))), .second, .val (.int (p2 &&& (3 : Int32))), .unset, .unset, .unset, .unset, .unset, .unset, .unset, .unset] [])) _
      refine XS.iload X0.here hx rfl (hb hby at_12) rfl ?_
      show Steps p.tables e below (s₁.setTop (mkF m 14 #[.val (.long q1), .second, .val (.int p2), .val (.int p3), .val (.long (q1 &&& (9223372036854775807 : Int64))), .second, .val (.int (p2 &&& (3 : Int32))), .unset, .unset, .unset, .unset, .unset, .unset, .unset, .unset] [(.int (p2 &&& (3 : Int32)))])) _
      refine XS.iconst X0.here hx rfl (hb hby at_14) ?_
      show Steps p.tables e below (s₁.setTop (mkF m 15 #[.val (.long q1), .second, .val (.int p2), .val (.int p3), .val (.long (q1 &&& (9223372036854775807 : Int64))), .second, .val (.int (p2 &&& (3 : Int32))), .unset, .unset, .unset, .unset, .unset, .unset, .unset, .unset] [(.int (1 : Int32)), (.int (p2 &&& (3 : Int32)))])) _
      refine (show ∀ tt, Steps p.tables e below (s₁.setTop (mkF m 52 #[.val (.long q1), .second, .val (.int p2), .val (.int p3), .val (.long (q1 &&& (9223372036854775807 : Int64))), .second, .val (.int (p2 &&& (3 : Int32))), .val (.long bs), .second, .unset, .unset, .unset, .unset, .unset, .unset] [])) tt → Steps p.tables e below (s₁.setTop (mkF m 15 #[.val (.long q1), .second, .val (.int p2), .val (.int p3), .val (.long (q1 &&& (9223372036854775807 : Int64))), .second, .val (.int (p2 &&& (3 : Int32))), .unset, .unset, .unset, .unset, .unset, .unset, .unset, .unset] [(.int (1 : Int32)), (.int (p2 &&& (3 : Int32)))])) tt from ?_) _ ?_
      · intro tt kt
        by_cases h1 : (p2 &&& (3 : Int32)) = (1 : Int32)
        · rw [h_bs, if_pos h1] at kt
          show Steps p.tables e below (s₁.setTop (mkF m 15 #[.val (.long q1), .second, .val (.int p2), .val (.int p3), .val (.long (q1 &&& (9223372036854775807 : Int64))), .second, .val (.int (p2 &&& (3 : Int32))), .unset, .unset, .unset, .unset, .unset, .unset, .unset, .unset] [(.int (1 : Int32)), (.int (p2 &&& (3 : Int32)))])) _
          refine XS.icmpNo X0.here hx rfl (hb hby at_15) rfl (teq h1).2 ?_
          show Steps p.tables e below (s₁.setTop (mkF m 18 #[.val (.long q1), .second, .val (.int p2), .val (.int p3), .val (.long (q1 &&& (9223372036854775807 : Int64))), .second, .val (.int (p2 &&& (3 : Int32))), .unset, .unset, .unset, .unset, .unset, .unset, .unset, .unset] [])) _
          refine XS.lload X0.here hx rfl (hb hby at_18) rfl ?_
          show Steps p.tables e below (s₁.setTop (mkF m 20 #[.val (.long q1), .second, .val (.int p2), .val (.int p3), .val (.long (q1 &&& (9223372036854775807 : Int64))), .second, .val (.int (p2 &&& (3 : Int32))), .unset, .unset, .unset, .unset, .unset, .unset, .unset, .unset] [(.long (q1 &&& (9223372036854775807 : Int64)))])) _
          refine X0.ldc2J hx (v := (8191 : Int64)) hown (mvT hZ (hw _ (List.mem_of_getElem? (i := 15) rfl))) (g := (mkF m 20 #[.val (.long q1), .second, .val (.int p2), .val (.int p3), .val (.long (q1 &&& (9223372036854775807 : Int64))), .second, .val (.int (p2 &&& (3 : Int32))), .unset, .unset, .unset, .unset, .unset, .unset, .unset, .unset] [(.long (q1 &&& (9223372036854775807 : Int64)))])) rfl (hb hby at_20) ?_
          show Steps p.tables e below (s₁.setTop (mkF m 23 #[.val (.long q1), .second, .val (.int p2), .val (.int p3), .val (.long (q1 &&& (9223372036854775807 : Int64))), .second, .val (.int (p2 &&& (3 : Int32))), .unset, .unset, .unset, .unset, .unset, .unset, .unset, .unset] [(.long (8191 : Int64)), (.long (q1 &&& (9223372036854775807 : Int64)))])) _
          refine XS.land X0.here hx rfl (hb hby at_23) rfl ?_
          show Steps p.tables e below (s₁.setTop (mkF m 24 #[.val (.long q1), .second, .val (.int p2), .val (.int p3), .val (.long (q1 &&& (9223372036854775807 : Int64))), .second, .val (.int (p2 &&& (3 : Int32))), .unset, .unset, .unset, .unset, .unset, .unset, .unset, .unset] [(.long ((q1 &&& (9223372036854775807 : Int64)) &&& (8191 : Int64)))])) _
          refine XS.lstore X0.here hx rfl (hb hby at_24) rfl (l' := #[.val (.long q1), .second, .val (.int p2), .val (.int p3), .val (.long (q1 &&& (9223372036854775807 : Int64))), .second, .val (.int (p2 &&& (3 : Int32))), .val (.long ((q1 &&& (9223372036854775807 : Int64)) &&& (8191 : Int64))), .second, .unset, .unset, .unset, .unset, .unset, .unset]) rfl ?_
          show Steps p.tables e below (s₁.setTop (mkF m 26 #[.val (.long q1), .second, .val (.int p2), .val (.int p3), .val (.long (q1 &&& (9223372036854775807 : Int64))), .second, .val (.int (p2 &&& (3 : Int32))), .val (.long ((q1 &&& (9223372036854775807 : Int64)) &&& (8191 : Int64))), .second, .unset, .unset, .unset, .unset, .unset, .unset] [])) _
          refine XS.goto X0.here hx rfl (pc0 := 26) (pc' := 52) rfl (hb hby at_26) (by decide) (by decide) ?_
          exact kt
        · by_cases h2 : (p2 &&& (3 : Int32)) = (2 : Int32)
          · rw [h_bs, if_neg h1, if_pos h2] at kt
            show Steps p.tables e below (s₁.setTop (mkF m 15 #[.val (.long q1), .second, .val (.int p2), .val (.int p3), .val (.long (q1 &&& (9223372036854775807 : Int64))), .second, .val (.int (p2 &&& (3 : Int32))), .unset, .unset, .unset, .unset, .unset, .unset, .unset, .unset] [(.int (1 : Int32)), (.int (p2 &&& (3 : Int32)))])) _
            refine XS.icmpYes X0.here hx rfl (pc0 := 15) (pc' := 29) rfl (hb hby at_15) rfl (feq h1).2 (by decide) (by decide) ?_
            show Steps p.tables e below (s₁.setTop (mkF m 29 #[.val (.long q1), .second, .val (.int p2), .val (.int p3), .val (.long (q1 &&& (9223372036854775807 : Int64))), .second, .val (.int (p2 &&& (3 : Int32))), .unset, .unset, .unset, .unset, .unset, .unset, .unset, .unset] [])) _
            refine XS.iload X0.here hx rfl (hb hby at_29) rfl ?_
            show Steps p.tables e below (s₁.setTop (mkF m 31 #[.val (.long q1), .second, .val (.int p2), .val (.int p3), .val (.long (q1 &&& (9223372036854775807 : Int64))), .second, .val (.int (p2 &&& (3 : Int32))), .unset, .unset, .unset, .unset, .unset, .unset, .unset, .unset] [(.int (p2 &&& (3 : Int32)))])) _
            refine XS.iconst X0.here hx rfl (hb hby at_31) ?_
            show Steps p.tables e below (s₁.setTop (mkF m 32 #[.val (.long q1), .second, .val (.int p2), .val (.int p3), .val (.long (q1 &&& (9223372036854775807 : Int64))), .second, .val (.int (p2 &&& (3 : Int32))), .unset, .unset, .unset, .unset, .unset, .unset, .unset, .unset] [(.int (2 : Int32)), (.int (p2 &&& (3 : Int32)))])) _
            refine XS.icmpNo X0.here hx rfl (hb hby at_32) rfl (teq h2).2 ?_
            show Steps p.tables e below (s₁.setTop (mkF m 35 #[.val (.long q1), .second, .val (.int p2), .val (.int p3), .val (.long (q1 &&& (9223372036854775807 : Int64))), .second, .val (.int (p2 &&& (3 : Int32))), .unset, .unset, .unset, .unset, .unset, .unset, .unset, .unset] [])) _
            refine X0.ldc2J hx (v := (4095 : Int64)) hown (mvT hZ (hw _ (List.mem_of_getElem? (i := 1) rfl))) (g := (mkF m 35 #[.val (.long q1), .second, .val (.int p2), .val (.int p3), .val (.long (q1 &&& (9223372036854775807 : Int64))), .second, .val (.int (p2 &&& (3 : Int32))), .unset, .unset, .unset, .unset, .unset, .unset, .unset, .unset] [])) rfl (hb hby at_35) ?_
            show Steps p.tables e below (s₁.setTop (mkF m 38 #[.val (.long q1), .second, .val (.int p2), .val (.int p3), .val (.long (q1 &&& (9223372036854775807 : Int64))), .second, .val (.int (p2 &&& (3 : Int32))), .unset, .unset, .unset, .unset, .unset, .unset, .unset, .unset] [(.long (4095 : Int64))])) _
            refine XS.lload X0.here hx rfl (hb hby at_38) rfl ?_
            show Steps p.tables e below (s₁.setTop (mkF m 40 #[.val (.long q1), .second, .val (.int p2), .val (.int p3), .val (.long (q1 &&& (9223372036854775807 : Int64))), .second, .val (.int (p2 &&& (3 : Int32))), .unset, .unset, .unset, .unset, .unset, .unset, .unset, .unset] [(.long (q1 &&& (9223372036854775807 : Int64))), (.long (4095 : Int64))])) _
            refine XS.lconst X0.here hx rfl (hb hby at_40) ?_
            show Steps p.tables e below (s₁.setTop (mkF m 41 #[.val (.long q1), .second, .val (.int p2), .val (.int p3), .val (.long (q1 &&& (9223372036854775807 : Int64))), .second, .val (.int (p2 &&& (3 : Int32))), .unset, .unset, .unset, .unset, .unset, .unset, .unset, .unset] [(.long (1 : Int64)), (.long (q1 &&& (9223372036854775807 : Int64))), (.long (4095 : Int64))])) _
            refine XS.land X0.here hx rfl (hb hby at_41) rfl ?_
            show Steps p.tables e below (s₁.setTop (mkF m 42 #[.val (.long q1), .second, .val (.int p2), .val (.int p3), .val (.long (q1 &&& (9223372036854775807 : Int64))), .second, .val (.int (p2 &&& (3 : Int32))), .unset, .unset, .unset, .unset, .unset, .unset, .unset, .unset] [(.long ((q1 &&& (9223372036854775807 : Int64)) &&& (1 : Int64))), (.long (4095 : Int64))])) _
            refine XS.ladd X0.here hx rfl (hb hby at_42) rfl ?_
            show Steps p.tables e below (s₁.setTop (mkF m 43 #[.val (.long q1), .second, .val (.int p2), .val (.int p3), .val (.long (q1 &&& (9223372036854775807 : Int64))), .second, .val (.int (p2 &&& (3 : Int32))), .unset, .unset, .unset, .unset, .unset, .unset, .unset, .unset] [(.long ((4095 : Int64) + ((q1 &&& (9223372036854775807 : Int64)) &&& (1 : Int64))))])) _
            refine XS.lstore X0.here hx rfl (hb hby at_43) rfl (l' := #[.val (.long q1), .second, .val (.int p2), .val (.int p3), .val (.long (q1 &&& (9223372036854775807 : Int64))), .second, .val (.int (p2 &&& (3 : Int32))), .val (.long ((4095 : Int64) + ((q1 &&& (9223372036854775807 : Int64)) &&& (1 : Int64)))), .second, .unset, .unset, .unset, .unset, .unset, .unset]) rfl ?_
            show Steps p.tables e below (s₁.setTop (mkF m 45 #[.val (.long q1), .second, .val (.int p2), .val (.int p3), .val (.long (q1 &&& (9223372036854775807 : Int64))), .second, .val (.int (p2 &&& (3 : Int32))), .val (.long ((4095 : Int64) + ((q1 &&& (9223372036854775807 : Int64)) &&& (1 : Int64)))), .second, .unset, .unset, .unset, .unset, .unset, .unset] [])) _
            refine XS.goto X0.here hx rfl (pc0 := 45) (pc' := 52) rfl (hb hby at_45) (by decide) (by decide) ?_
            exact kt
          · rw [h_bs, if_neg h1, if_neg h2] at kt
            show Steps p.tables e below (s₁.setTop (mkF m 15 #[.val (.long q1), .second, .val (.int p2), .val (.int p3), .val (.long (q1 &&& (9223372036854775807 : Int64))), .second, .val (.int (p2 &&& (3 : Int32))), .unset, .unset, .unset, .unset, .unset, .unset, .unset, .unset] [(.int (1 : Int32)), (.int (p2 &&& (3 : Int32)))])) _
            refine XS.icmpYes X0.here hx rfl (pc0 := 15) (pc' := 29) rfl (hb hby at_15) rfl (feq h1).2 (by decide) (by decide) ?_
            show Steps p.tables e below (s₁.setTop (mkF m 29 #[.val (.long q1), .second, .val (.int p2), .val (.int p3), .val (.long (q1 &&& (9223372036854775807 : Int64))), .second, .val (.int (p2 &&& (3 : Int32))), .unset, .unset, .unset, .unset, .unset, .unset, .unset, .unset] [])) _
            refine XS.iload X0.here hx rfl (hb hby at_29) rfl ?_
            show Steps p.tables e below (s₁.setTop (mkF m 31 #[.val (.long q1), .second, .val (.int p2), .val (.int p3), .val (.long (q1 &&& (9223372036854775807 : Int64))), .second, .val (.int (p2 &&& (3 : Int32))), .unset, .unset, .unset, .unset, .unset, .unset, .unset, .unset] [(.int (p2 &&& (3 : Int32)))])) _
            refine XS.iconst X0.here hx rfl (hb hby at_31) ?_
            show Steps p.tables e below (s₁.setTop (mkF m 32 #[.val (.long q1), .second, .val (.int p2), .val (.int p3), .val (.long (q1 &&& (9223372036854775807 : Int64))), .second, .val (.int (p2 &&& (3 : Int32))), .unset, .unset, .unset, .unset, .unset, .unset, .unset, .unset] [(.int (2 : Int32)), (.int (p2 &&& (3 : Int32)))])) _
            refine XS.icmpYes X0.here hx rfl (pc0 := 32) (pc' := 48) rfl (hb hby at_32) rfl (feq h2).2 (by decide) (by decide) ?_
            show Steps p.tables e below (s₁.setTop (mkF m 48 #[.val (.long q1), .second, .val (.int p2), .val (.int p3), .val (.long (q1 &&& (9223372036854775807 : Int64))), .second, .val (.int (p2 &&& (3 : Int32))), .unset, .unset, .unset, .unset, .unset, .unset, .unset, .unset] [])) _
            refine XS.lload X0.here hx rfl (hb hby at_48) rfl ?_
            show Steps p.tables e below (s₁.setTop (mkF m 50 #[.val (.long q1), .second, .val (.int p2), .val (.int p3), .val (.long (q1 &&& (9223372036854775807 : Int64))), .second, .val (.int (p2 &&& (3 : Int32))), .unset, .unset, .unset, .unset, .unset, .unset, .unset, .unset] [(.long (q1 &&& (9223372036854775807 : Int64)))])) _
            refine XS.lstore X0.here hx rfl (hb hby at_50) rfl (l' := #[.val (.long q1), .second, .val (.int p2), .val (.int p3), .val (.long (q1 &&& (9223372036854775807 : Int64))), .second, .val (.int (p2 &&& (3 : Int32))), .val (.long (q1 &&& (9223372036854775807 : Int64))), .second, .unset, .unset, .unset, .unset, .unset, .unset]) rfl ?_
            exact kt
      show Steps p.tables e below (s₁.setTop (mkF m 52 #[.val (.long q1), .second, .val (.int p2), .val (.int p3), .val (.long (q1 &&& (9223372036854775807 : Int64))), .second, .val (.int (p2 &&& (3 : Int32))), .val (.long bs), .second, .unset, .unset, .unset, .unset, .unset, .unset] [])) _
      refine XS.iloadN X0.here hx rfl (hb hby at_52) rfl ?_
      show Steps p.tables e below (s₁.setTop (mkF m 53 #[.val (.long q1), .second, .val (.int p2), .val (.int p3), .val (.long (q1 &&& (9223372036854775807 : Int64))), .second, .val (.int (p2 &&& (3 : Int32))), .val (.long bs), .second, .unset, .unset, .unset, .unset, .unset, .unset] [(.int p3)])) _
      refine X0.ldcI hx (v := (2147483647 : Int32)) hown (mvT hZ (hw _ (List.mem_of_getElem? (i := 2) rfl))) (g := (mkF m 53 #[.val (.long q1), .second, .val (.int p2), .val (.int p3), .val (.long (q1 &&& (9223372036854775807 : Int64))), .second, .val (.int (p2 &&& (3 : Int32))), .val (.long bs), .second, .unset, .unset, .unset, .unset, .unset, .unset] [(.int p3)])) rfl (hb hby at_53) ?_
      show Steps p.tables e below (s₁.setTop (mkF m 55 #[.val (.long q1), .second, .val (.int p2), .val (.int p3), .val (.long (q1 &&& (9223372036854775807 : Int64))), .second, .val (.int (p2 &&& (3 : Int32))), .val (.long bs), .second, .unset, .unset, .unset, .unset, .unset, .unset] [(.int (2147483647 : Int32)), (.int p3)])) _
      refine XS.iand X0.here hx rfl (hb hby at_55) rfl ?_
      show Steps p.tables e below (s₁.setTop (mkF m 56 #[.val (.long q1), .second, .val (.int p2), .val (.int p3), .val (.long (q1 &&& (9223372036854775807 : Int64))), .second, .val (.int (p2 &&& (3 : Int32))), .val (.long bs), .second, .unset, .unset, .unset, .unset, .unset, .unset] [(.int (p3 &&& (2147483647 : Int32)))])) _
      refine XS.bipush X0.here hx rfl (hb hby at_56) ?_
      show Steps p.tables e below (s₁.setTop (mkF m 58 #[.val (.long q1), .second, .val (.int p2), .val (.int p3), .val (.long (q1 &&& (9223372036854775807 : Int64))), .second, .val (.int (p2 &&& (3 : Int32))), .val (.long bs), .second, .unset, .unset, .unset, .unset, .unset, .unset] [(.int (63 : Int32)), (.int (p3 &&& (2147483647 : Int32)))])) _
      refine iremM X0 hx rfl (hb hby at_58) rfl (by decide) ?_
      show Steps p.tables e below (s₁.setTop (mkF m 59 #[.val (.long q1), .second, .val (.int p2), .val (.int p3), .val (.long (q1 &&& (9223372036854775807 : Int64))), .second, .val (.int (p2 &&& (3 : Int32))), .val (.long bs), .second, .unset, .unset, .unset, .unset, .unset, .unset] [(.int ((p3 &&& (2147483647 : Int32)) % (63 : Int32)))])) _
      refine XS.istore X0.here hx rfl (hb hby at_59) rfl (l' := #[.val (.long q1), .second, .val (.int p2), .val (.int p3), .val (.long (q1 &&& (9223372036854775807 : Int64))), .second, .val (.int (p2 &&& (3 : Int32))), .val (.long bs), .second, .val (.int ((p3 &&& (2147483647 : Int32)) % (63 : Int32))), .unset, .unset, .unset, .unset, .unset]) rfl ?_
      show Steps p.tables e below (s₁.setTop (mkF m 61 #[.val (.long q1), .second, .val (.int p2), .val (.int p3), .val (.long (q1 &&& (9223372036854775807 : Int64))), .second, .val (.int (p2 &&& (3 : Int32))), .val (.long bs), .second, .val (.int ((p3 &&& (2147483647 : Int32)) % (63 : Int32))), .unset, .unset, .unset, .unset, .unset] [])) _
      refine XS.lconst X0.here hx rfl (hb hby at_61) ?_
      show Steps p.tables e below (s₁.setTop (mkF m 62 #[.val (.long q1), .second, .val (.int p2), .val (.int p3), .val (.long (q1 &&& (9223372036854775807 : Int64))), .second, .val (.int (p2 &&& (3 : Int32))), .val (.long bs), .second, .val (.int ((p3 &&& (2147483647 : Int32)) % (63 : Int32))), .unset, .unset, .unset, .unset, .unset] [(.long (1 : Int64))])) _
      refine XS.iload X0.here hx rfl (hb hby at_62) rfl ?_
      show Steps p.tables e below (s₁.setTop (mkF m 64 #[.val (.long q1), .second, .val (.int p2), .val (.int p3), .val (.long (q1 &&& (9223372036854775807 : Int64))), .second, .val (.int (p2 &&& (3 : Int32))), .val (.long bs), .second, .val (.int ((p3 &&& (2147483647 : Int32)) % (63 : Int32))), .unset, .unset, .unset, .unset, .unset] [(.int ((p3 &&& (2147483647 : Int32)) % (63 : Int32))), (.long (1 : Int64))])) _
      refine XS.lshl X0.here hx rfl (hb hby at_64) rfl ?_
      show Steps p.tables e below (s₁.setTop (mkF m 65 #[.val (.long q1), .second, .val (.int p2), .val (.int p3), .val (.long (q1 &&& (9223372036854775807 : Int64))), .second, .val (.int (p2 &&& (3 : Int32))), .val (.long bs), .second, .val (.int ((p3 &&& (2147483647 : Int32)) % (63 : Int32))), .unset, .unset, .unset, .unset, .unset] [(.long ((1 : Int64) <<< (((p3 &&& (2147483647 : Int32)) % (63 : Int32)) &&& 0x3f).toInt64))])) _
      refine XS.lstore X0.here hx rfl (hb hby at_65) rfl (l' := #[.val (.long q1), .second, .val (.int p2), .val (.int p3), .val (.long (q1 &&& (9223372036854775807 : Int64))), .second, .val (.int (p2 &&& (3 : Int32))), .val (.long bs), .second, .val (.int ((p3 &&& (2147483647 : Int32)) % (63 : Int32))), .val (.long ((1 : Int64) <<< (((p3 &&& (2147483647 : Int32)) % (63 : Int32)) &&& 0x3f).toInt64)), .second, .unset, .unset, .unset]) rfl ?_
      show Steps p.tables e below (s₁.setTop (mkF m 67 #[.val (.long q1), .second, .val (.int p2), .val (.int p3), .val (.long (q1 &&& (9223372036854775807 : Int64))), .second, .val (.int (p2 &&& (3 : Int32))), .val (.long bs), .second, .val (.int ((p3 &&& (2147483647 : Int32)) % (63 : Int32))), .val (.long ((1 : Int64) <<< (((p3 &&& (2147483647 : Int32)) % (63 : Int32)) &&& 0x3f).toInt64)), .second, .unset, .unset, .unset] [])) _
      rw [h_al2]
      show Steps p.tables e below (s₁.setTop (mkF m 67 #[.val (.long q1), .second, .val (.int p2), .val (.int p3), .val (.long (q1 &&& (9223372036854775807 : Int64))), .second, .val (.int (p2 &&& (3 : Int32))), .val (.long bs), .second, .val (.int ((p3 &&& (2147483647 : Int32)) % (63 : Int32))), .val (.long al), .second, .unset, .unset, .unset] [])) _
      refine XS.lload X0.here hx rfl (hb hby at_67) rfl ?_
      show Steps p.tables e below (s₁.setTop (mkF m 69 #[.val (.long q1), .second, .val (.int p2), .val (.int p3), .val (.long (q1 &&& (9223372036854775807 : Int64))), .second, .val (.int (p2 &&& (3 : Int32))), .val (.long bs), .second, .val (.int ((p3 &&& (2147483647 : Int32)) % (63 : Int32))), .val (.long al), .second, .unset, .unset, .unset] [(.long bs)])) _
      refine XS.lload X0.here hx rfl (hb hby at_69) rfl ?_
      show Steps p.tables e below (s₁.setTop (mkF m 71 #[.val (.long q1), .second, .val (.int p2), .val (.int p3), .val (.long (q1 &&& (9223372036854775807 : Int64))), .second, .val (.int (p2 &&& (3 : Int32))), .val (.long bs), .second, .val (.int ((p3 &&& (2147483647 : Int32)) % (63 : Int32))), .val (.long al), .second, .unset, .unset, .unset] [(.long al), (.long bs)])) _
      refine st1 _ ?_
      show Steps p.tables e below (T1.setTop (mkF m 74 #[.val (.long q1), .second, .val (.int p2), .val (.int p3), .val (.long (q1 &&& (9223372036854775807 : Int64))), .second, .val (.int (p2 &&& (3 : Int32))), .val (.long bs), .second, .val (.int ((p3 &&& (2147483647 : Int32)) % (63 : Int32))), .val (.long al), .second, .unset, .unset, .unset] [(.long (own_sa bs al))])) _
      rw [h_r2]
      show Steps p.tables e below (T1.setTop (mkF m 74 #[.val (.long q1), .second, .val (.int p2), .val (.int p3), .val (.long (q1 &&& (9223372036854775807 : Int64))), .second, .val (.int (p2 &&& (3 : Int32))), .val (.long bs), .second, .val (.int ((p3 &&& (2147483647 : Int32)) % (63 : Int32))), .val (.long al), .second, .unset, .unset, .unset] [(.long r)])) _
      refine XS.lstore X1.here hx rfl (hb hby at_74) rfl (l' := #[.val (.long q1), .second, .val (.int p2), .val (.int p3), .val (.long (q1 &&& (9223372036854775807 : Int64))), .second, .val (.int (p2 &&& (3 : Int32))), .val (.long bs), .second, .val (.int ((p3 &&& (2147483647 : Int32)) % (63 : Int32))), .val (.long al), .second, .val (.long r), .second, .unset]) rfl ?_
      show Steps p.tables e below (T1.setTop (mkF m 76 #[.val (.long q1), .second, .val (.int p2), .val (.int p3), .val (.long (q1 &&& (9223372036854775807 : Int64))), .second, .val (.int (p2 &&& (3 : Int32))), .val (.long bs), .second, .val (.int ((p3 &&& (2147483647 : Int32)) % (63 : Int32))), .val (.long al), .second, .val (.long r), .second, .unset] [])) _
      refine XS.lload X1.here hx rfl (hb hby at_76) rfl ?_
      show Steps p.tables e below (T1.setTop (mkF m 78 #[.val (.long q1), .second, .val (.int p2), .val (.int p3), .val (.long (q1 &&& (9223372036854775807 : Int64))), .second, .val (.int (p2 &&& (3 : Int32))), .val (.long bs), .second, .val (.int ((p3 &&& (2147483647 : Int32)) % (63 : Int32))), .val (.long al), .second, .val (.long r), .second, .unset] [(.long r)])) _
      refine XS.lconst X1.here hx rfl (hb hby at_78) ?_
      show Steps p.tables e below (T1.setTop (mkF m 79 #[.val (.long q1), .second, .val (.int p2), .val (.int p3), .val (.long (q1 &&& (9223372036854775807 : Int64))), .second, .val (.int (p2 &&& (3 : Int32))), .val (.long bs), .second, .val (.int ((p3 &&& (2147483647 : Int32)) % (63 : Int32))), .val (.long al), .second, .val (.long r), .second, .unset] [(.long (0 : Int64)), (.long r)])) _
      refine XS.lcmp X1.here hx rfl (hb hby at_79) rfl ?_
      show Steps p.tables e below (T1.setTop (mkF m 80 #[.val (.long q1), .second, .val (.int p2), .val (.int p3), .val (.long (q1 &&& (9223372036854775807 : Int64))), .second, .val (.int (p2 &&& (3 : Int32))), .val (.long bs), .second, .val (.int ((p3 &&& (2147483647 : Int32)) % (63 : Int32))), .val (.long al), .second, .val (.long r), .second, .unset] [(.int (lcmpW r (0 : Int64)))])) _
      refine XS.ifNo X1.here hx rfl (hb hby at_80) rfl (Jvm.Free.XT.ll_le_f f2.1.1) ?_
      show Steps p.tables e below (T1.setTop (mkF m 83 #[.val (.long q1), .second, .val (.int p2), .val (.int p3), .val (.long (q1 &&& (9223372036854775807 : Int64))), .second, .val (.int (p2 &&& (3 : Int32))), .val (.long bs), .second, .val (.int ((p3 &&& (2147483647 : Int32)) % (63 : Int32))), .val (.long al), .second, .val (.long r), .second, .unset] [])) _
      refine XS.lload X1.here hx rfl (hb hby at_83) rfl ?_
      show Steps p.tables e below (T1.setTop (mkF m 85 #[.val (.long q1), .second, .val (.int p2), .val (.int p3), .val (.long (q1 &&& (9223372036854775807 : Int64))), .second, .val (.int (p2 &&& (3 : Int32))), .val (.long bs), .second, .val (.int ((p3 &&& (2147483647 : Int32)) % (63 : Int32))), .val (.long al), .second, .val (.long r), .second, .unset] [(.long r)])) _
      refine XS.lload X1.here hx rfl (hb hby at_85) rfl ?_
      show Steps p.tables e below (T1.setTop (mkF m 87 #[.val (.long q1), .second, .val (.int p2), .val (.int p3), .val (.long (q1 &&& (9223372036854775807 : Int64))), .second, .val (.int (p2 &&& (3 : Int32))), .val (.long bs), .second, .val (.int ((p3 &&& (2147483647 : Int32)) % (63 : Int32))), .val (.long al), .second, .val (.long r), .second, .unset] [(.long r), (.long r)])) _
      refine XS.lconst X1.here hx rfl (hb hby at_87) ?_
      show Steps p.tables e below (T1.setTop (mkF m 88 #[.val (.long q1), .second, .val (.int p2), .val (.int p3), .val (.long (q1 &&& (9223372036854775807 : Int64))), .second, .val (.int (p2 &&& (3 : Int32))), .val (.long bs), .second, .val (.int ((p3 &&& (2147483647 : Int32)) % (63 : Int32))), .val (.long al), .second, .val (.long r), .second, .unset] [(.long (1 : Int64)), (.long r), (.long r)])) _
      refine XS.lsub X1.here hx rfl (hb hby at_88) rfl ?_
      show Steps p.tables e below (T1.setTop (mkF m 89 #[.val (.long q1), .second, .val (.int p2), .val (.int p3), .val (.long (q1 &&& (9223372036854775807 : Int64))), .second, .val (.int (p2 &&& (3 : Int32))), .val (.long bs), .second, .val (.int ((p3 &&& (2147483647 : Int32)) % (63 : Int32))), .val (.long al), .second, .val (.long r), .second, .unset] [(.long (r - (1 : Int64))), (.long r)])) _
      refine XS.land X1.here hx rfl (hb hby at_89) rfl ?_
      show Steps p.tables e below (T1.setTop (mkF m 90 #[.val (.long q1), .second, .val (.int p2), .val (.int p3), .val (.long (q1 &&& (9223372036854775807 : Int64))), .second, .val (.int (p2 &&& (3 : Int32))), .val (.long bs), .second, .val (.int ((p3 &&& (2147483647 : Int32)) % (63 : Int32))), .val (.long al), .second, .val (.long r), .second, .unset] [(.long (r &&& (r - (1 : Int64))))])) _
      refine XS.lconst X1.here hx rfl (hb hby at_90) ?_
      show Steps p.tables e below (T1.setTop (mkF m 91 #[.val (.long q1), .second, .val (.int p2), .val (.int p3), .val (.long (q1 &&& (9223372036854775807 : Int64))), .second, .val (.int (p2 &&& (3 : Int32))), .val (.long bs), .second, .val (.int ((p3 &&& (2147483647 : Int32)) % (63 : Int32))), .val (.long al), .second, .val (.long r), .second, .unset] [(.long (0 : Int64)), (.long (r &&& (r - (1 : Int64))))])) _
      refine XS.lcmp X1.here hx rfl (hb hby at_91) rfl ?_
      show Steps p.tables e below (T1.setTop (mkF m 92 #[.val (.long q1), .second, .val (.int p2), .val (.int p3), .val (.long (q1 &&& (9223372036854775807 : Int64))), .second, .val (.int (p2 &&& (3 : Int32))), .val (.long bs), .second, .val (.int ((p3 &&& (2147483647 : Int32)) % (63 : Int32))), .val (.long al), .second, .val (.long r), .second, .unset] [(.int (lcmpW (r &&& (r - (1 : Int64))) (0 : Int64)))])) _
      refine XS.ifNo X1.here hx rfl (hb hby at_92) rfl (Jvm.Free.XT.ll_ne_f f2.1.2) ?_
      show Steps p.tables e below (T1.setTop (mkF m 95 #[.val (.long q1), .second, .val (.int p2), .val (.int p3), .val (.long (q1 &&& (9223372036854775807 : Int64))), .second, .val (.int (p2 &&& (3 : Int32))), .val (.long bs), .second, .val (.int ((p3 &&& (2147483647 : Int32)) % (63 : Int32))), .val (.long al), .second, .val (.long r), .second, .unset] [])) _
      refine XS.iconst X1.here hx rfl (hb hby at_95) ?_
      show Steps p.tables e below (T1.setTop (mkF m 96 #[.val (.long q1), .second, .val (.int p2), .val (.int p3), .val (.long (q1 &&& (9223372036854775807 : Int64))), .second, .val (.int (p2 &&& (3 : Int32))), .val (.long bs), .second, .val (.int ((p3 &&& (2147483647 : Int32)) % (63 : Int32))), .val (.long al), .second, .val (.long r), .second, .unset] [(.int (1 : Int32))])) _
      refine XS.goto X1.here hx rfl (pc0 := 96) (pc' := 100) rfl (hb hby at_96) (by decide) (by decide) ?_
      show Steps p.tables e below (T1.setTop (mkF m 100 #[.val (.long q1), .second, .val (.int p2), .val (.int p3), .val (.long (q1 &&& (9223372036854775807 : Int64))), .second, .val (.int (p2 &&& (3 : Int32))), .val (.long bs), .second, .val (.int ((p3 &&& (2147483647 : Int32)) % (63 : Int32))), .val (.long al), .second, .val (.long r), .second, .unset] [(.int (1 : Int32))])) _
      refine XS.istore X1.here hx rfl (hb hby at_100) rfl (l' := #[.val (.long q1), .second, .val (.int p2), .val (.int p3), .val (.long (q1 &&& (9223372036854775807 : Int64))), .second, .val (.int (p2 &&& (3 : Int32))), .val (.long bs), .second, .val (.int ((p3 &&& (2147483647 : Int32)) % (63 : Int32))), .val (.long al), .second, .val (.long r), .second, .val (.int (1 : Int32))]) rfl ?_
      show Steps p.tables e below (T1.setTop (mkF m 102 #[.val (.long q1), .second, .val (.int p2), .val (.int p3), .val (.long (q1 &&& (9223372036854775807 : Int64))), .second, .val (.int (p2 &&& (3 : Int32))), .val (.long bs), .second, .val (.int ((p3 &&& (2147483647 : Int32)) % (63 : Int32))), .val (.long al), .second, .val (.long r), .second, .val (.int (1 : Int32))] [])) _
      refine XS.iload X1.here hx rfl (hb hby at_102) rfl ?_
      show Steps p.tables e below (T1.setTop (mkF m 104 #[.val (.long q1), .second, .val (.int p2), .val (.int p3), .val (.long (q1 &&& (9223372036854775807 : Int64))), .second, .val (.int (p2 &&& (3 : Int32))), .val (.long bs), .second, .val (.int ((p3 &&& (2147483647 : Int32)) % (63 : Int32))), .val (.long al), .second, .val (.long r), .second, .val (.int (1 : Int32))] [(.int (1 : Int32))])) _
      refine XS.ifYes X1.here hx rfl (pc0 := 104) (pc' := 109) rfl (hb hby at_104) rfl ((if0 _ _).trans (feq (by decide)).2) (by decide) (by decide) ?_
      show Steps p.tables e below (T1.setTop (mkF m 109 #[.val (.long q1), .second, .val (.int p2), .val (.int p3), .val (.long (q1 &&& (9223372036854775807 : Int64))), .second, .val (.int (p2 &&& (3 : Int32))), .val (.long bs), .second, .val (.int ((p3 &&& (2147483647 : Int32)) % (63 : Int32))), .val (.long al), .second, .val (.long r), .second, .val (.int (1 : Int32))] [])) _
      refine XS.lload X1.here hx rfl (hb hby at_109) rfl ?_
      show Steps p.tables e below (T1.setTop (mkF m 111 #[.val (.long q1), .second, .val (.int p2), .val (.int p3), .val (.long (q1 &&& (9223372036854775807 : Int64))), .second, .val (.int (p2 &&& (3 : Int32))), .val (.long bs), .second, .val (.int ((p3 &&& (2147483647 : Int32)) % (63 : Int32))), .val (.long al), .second, .val (.long r), .second, .val (.int (1 : Int32))] [(.long r)])) _
      refine XS.lload X1.here hx rfl (hb hby at_111) rfl ?_
      show Steps p.tables e below (T1.setTop (mkF m 113 #[.val (.long q1), .second, .val (.int p2), .val (.int p3), .val (.long (q1 &&& (9223372036854775807 : Int64))), .second, .val (.int (p2 &&& (3 : Int32))), .val (.long bs), .second, .val (.int ((p3 &&& (2147483647 : Int32)) % (63 : Int32))), .val (.long al), .second, .val (.long r), .second, .val (.int (1 : Int32))] [(.long al), (.long r)])) _
      refine XS.lrem X1.here hx rfl (hb hby at_113) rfl f1 ?_
      show Steps p.tables e below (T1.setTop (mkF m 114 #[.val (.long q1), .second, .val (.int p2), .val (.int p3), .val (.long (q1 &&& (9223372036854775807 : Int64))), .second, .val (.int (p2 &&& (3 : Int32))), .val (.long bs), .second, .val (.int ((p3 &&& (2147483647 : Int32)) % (63 : Int32))), .val (.long al), .second, .val (.long r), .second, .val (.int (1 : Int32))] [(.long (r - (r / al) * al))])) _
      refine XS.lconst X1.here hx rfl (hb hby at_114) ?_
      show Steps p.tables e below (T1.setTop (mkF m 115 #[.val (.long q1), .second, .val (.int p2), .val (.int p3), .val (.long (q1 &&& (9223372036854775807 : Int64))), .second, .val (.int (p2 &&& (3 : Int32))), .val (.long bs), .second, .val (.int ((p3 &&& (2147483647 : Int32)) % (63 : Int32))), .val (.long al), .second, .val (.long r), .second, .val (.int (1 : Int32))] [(.long (0 : Int64)), (.long (r - (r / al) * al))])) _
      refine XS.lcmp X1.here hx rfl (hb hby at_115) rfl ?_
      show Steps p.tables e below (T1.setTop (mkF m 116 #[.val (.long q1), .second, .val (.int p2), .val (.int p3), .val (.long (q1 &&& (9223372036854775807 : Int64))), .second, .val (.int (p2 &&& (3 : Int32))), .val (.long bs), .second, .val (.int ((p3 &&& (2147483647 : Int32)) % (63 : Int32))), .val (.long al), .second, .val (.long r), .second, .val (.int (1 : Int32))] [(.int (lcmpW (r - (r / al) * al) (0 : Int64)))])) _
      refine XS.ifYes X1.here hx rfl (pc0 := 116) (pc' := 121) rfl (hb hby at_116) rfl (Jvm.Free.XT.ll_eq_t f2.2) (by decide) (by decide) ?_
      show Steps p.tables e below (T1.setTop (mkF m 121 #[.val (.long q1), .second, .val (.int p2), .val (.int p3), .val (.long (q1 &&& (9223372036854775807 : Int64))), .second, .val (.int (p2 &&& (3 : Int32))), .val (.long bs), .second, .val (.int ((p3 &&& (2147483647 : Int32)) % (63 : Int32))), .val (.long al), .second, .val (.long r), .second, .val (.int (1 : Int32))] [])) _
      refine XS.lload X1.here hx rfl (hb hby at_121) rfl ?_
      show Steps p.tables e below (T1.setTop (mkF m 123 #[.val (.long q1), .second, .val (.int p2), .val (.int p3), .val (.long (q1 &&& (9223372036854775807 : Int64))), .second, .val (.int (p2 &&& (3 : Int32))), .val (.long bs), .second, .val (.int ((p3 &&& (2147483647 : Int32)) % (63 : Int32))), .val (.long al), .second, .val (.long r), .second, .val (.int (1 : Int32))] [(.long bs)])) _
      refine X1.ldc2J hx (v := (4096 : Int64)) hown (mvT hZ (hw _ (List.mem_of_getElem? (i := 13) rfl))) (g := (mkF m 123 #[.val (.long q1), .second, .val (.int p2), .val (.int p3), .val (.long (q1 &&& (9223372036854775807 : Int64))), .second, .val (.int (p2 &&& (3 : Int32))), .val (.long bs), .second, .val (.int ((p3 &&& (2147483647 : Int32)) % (63 : Int32))), .val (.long al), .second, .val (.long r), .second, .val (.int (1 : Int32))] [(.long bs)])) rfl (hb hby at_123) ?_
      show Steps p.tables e below (T1.setTop (mkF m 126 #[.val (.long q1), .second, .val (.int p2), .val (.int p3), .val (.long (q1 &&& (9223372036854775807 : Int64))), .second, .val (.int (p2 &&& (3 : Int32))), .val (.long bs), .second, .val (.int ((p3 &&& (2147483647 : Int32)) % (63 : Int32))), .val (.long al), .second, .val (.long r), .second, .val (.int (1 : Int32))] [(.long (4096 : Int64)), (.long bs)])) _
      refine XS.lcmp X1.here hx rfl (hb hby at_126) rfl ?_
      show Steps p.tables e below (T1.setTop (mkF m 127 #[.val (.long q1), .second, .val (.int p2), .val (.int p3), .val (.long (q1 &&& (9223372036854775807 : Int64))), .second, .val (.int (p2 &&& (3 : Int32))), .val (.long bs), .second, .val (.int ((p3 &&& (2147483647 : Int32)) % (63 : Int32))), .val (.long al), .second, .val (.long r), .second, .val (.int (1 : Int32))] [(.int (lcmpW bs (4096 : Int64)))])) _
      refine XS.ifNo X1.here hx rfl (hb hby at_127) rfl (Jvm.Free.XT.ll_ge_f hbs) ?_
      show Steps p.tables e below (T1.setTop (mkF m 130 #[.val (.long q1), .second, .val (.int p2), .val (.int p3), .val (.long (q1 &&& (9223372036854775807 : Int64))), .second, .val (.int (p2 &&& (3 : Int32))), .val (.long bs), .second, .val (.int ((p3 &&& (2147483647 : Int32)) % (63 : Int32))), .val (.long al), .second, .val (.long r), .second, .val (.int (1 : Int32))] [])) _
      refine XS.lload X1.here hx rfl (hb hby at_130) rfl ?_
      show Steps p.tables e below (T1.setTop (mkF m 132 #[.val (.long q1), .second, .val (.int p2), .val (.int p3), .val (.long (q1 &&& (9223372036854775807 : Int64))), .second, .val (.int (p2 &&& (3 : Int32))), .val (.long bs), .second, .val (.int ((p3 &&& (2147483647 : Int32)) % (63 : Int32))), .val (.long al), .second, .val (.long r), .second, .val (.int (1 : Int32))] [(.long r)])) _
      refine XS.lload X1.here hx rfl (hb hby at_132) rfl ?_
      show Steps p.tables e below (T1.setTop (mkF m 134 #[.val (.long q1), .second, .val (.int p2), .val (.int p3), .val (.long (q1 &&& (9223372036854775807 : Int64))), .second, .val (.int (p2 &&& (3 : Int32))), .val (.long bs), .second, .val (.int ((p3 &&& (2147483647 : Int32)) % (63 : Int32))), .val (.long al), .second, .val (.long r), .second, .val (.int (1 : Int32))] [(.long al), (.long r)])) _
      refine XS.lcmp X1.here hx rfl (hb hby at_134) rfl ?_
      show Steps p.tables e below (T1.setTop (mkF m 135 #[.val (.long q1), .second, .val (.int p2), .val (.int p3), .val (.long (q1 &&& (9223372036854775807 : Int64))), .second, .val (.int (p2 &&& (3 : Int32))), .val (.long bs), .second, .val (.int ((p3 &&& (2147483647 : Int32)) % (63 : Int32))), .val (.long al), .second, .val (.long r), .second, .val (.int (1 : Int32))] [(.int (lcmpW r al))])) _
      refine XS.ifNo X1.here hx rfl (hb hby at_135) rfl (Jvm.Free.XT.ll_ne_f (f3 hbs)) ?_
      show Steps p.tables e below (T1.setTop (mkF m 138 #[.val (.long q1), .second, .val (.int p2), .val (.int p3), .val (.long (q1 &&& (9223372036854775807 : Int64))), .second, .val (.int (p2 &&& (3 : Int32))), .val (.long bs), .second, .val (.int ((p3 &&& (2147483647 : Int32)) % (63 : Int32))), .val (.long al), .second, .val (.long r), .second, .val (.int (1 : Int32))] [])) _
      refine XS.iconst X1.here hx rfl (hb hby at_138) ?_
      show Steps p.tables e below (T1.setTop (mkF m 139 #[.val (.long q1), .second, .val (.int p2), .val (.int p3), .val (.long (q1 &&& (9223372036854775807 : Int64))), .second, .val (.int (p2 &&& (3 : Int32))), .val (.long bs), .second, .val (.int ((p3 &&& (2147483647 : Int32)) % (63 : Int32))), .val (.long al), .second, .val (.long r), .second, .val (.int (1 : Int32))] [(.int (1 : Int32))])) _
      refine XS.goto X1.here hx rfl (pc0 := 139) (pc' := 143) rfl (hb hby at_139) (by decide) (by decide) ?_
      show Steps p.tables e below (T1.setTop (mkF m 143 #[.val (.long q1), .second, .val (.int p2), .val (.int p3), .val (.long (q1 &&& (9223372036854775807 : Int64))), .second, .val (.int (p2 &&& (3 : Int32))), .val (.long bs), .second, .val (.int ((p3 &&& (2147483647 : Int32)) % (63 : Int32))), .val (.long al), .second, .val (.long r), .second, .val (.int (1 : Int32))] [(.int (1 : Int32))])) _
      exact retN X1 hx (t := .boolean) Bd.returns (by simp) (hb hby at_143) hr
    · show Q_law Z q1 p2 p3 h0 n0 _ T1.heap _
      rw [e1]
      exact ⟨rfl, N1⟩
  · by_cases he : r = al
    · obtain ⟨fs, hr, hrun, hended, hW, hsame⟩ := X1.leave (v := some (.int (1 : Int32))) (fun h => by rw [Bd.returns] at h; cases h)
      refine ⟨_, _, pre0 _ ?_, hrun, hended, _, _, rfl, ?_, ⟨_, rfl⟩, hW, hsame.mono (by decide) (by decide)⟩
      · show Steps p.tables e below (s₁.setTop (mkF m 0 #[.val (.long q1), .second, .val (.int p2), .val (.int p3), .unset, .unset, .unset, .unset, .unset, .unset, .unset, .unset, .unset, .unset, .unset] [])) _
        refine XS.lloadN X0.here hx rfl (hb hby at_0) rfl ?_
        show Steps p.tables e below (s₁.setTop (mkF m 1 #[.val (.long q1), .second, .val (.int p2), .val (.int p3), .unset, .unset, .unset, .unset, .unset, .unset, .unset, .unset, .unset, .unset, .unset] [(.long q1)])) _
        refine X0.ldc2J hx (v := (9223372036854775807 : Int64)) hown (mvT hZ (hw _ (List.mem_of_getElem? (i := 0) rfl))) (g := (mkF m 1 #[.val (.long q1), .second, .val (.int p2), .val (.int p3), .unset, .unset, .unset, .unset, .unset, .unset, .unset, .unset, .unset, .unset, .unset] [(.long q1)])) rfl (hb hby at_1) ?_
        show Steps p.tables e below (s₁.setTop (mkF m 4 #[.val (.long q1), .second, .val (.int p2), .val (.int p3), .unset, .unset, .unset, .unset, .unset, .unset, .unset, .unset, .unset, .unset, .unset] [(.long (9223372036854775807 : Int64)), (.long q1)])) _
        refine XS.land X0.here hx rfl (hb hby at_4) rfl ?_
        show Steps p.tables e below (s₁.setTop (mkF m 5 #[.val (.long q1), .second, .val (.int p2), .val (.int p3), .unset, .unset, .unset, .unset, .unset, .unset, .unset, .unset, .unset, .unset, .unset] [(.long (q1 &&& (9223372036854775807 : Int64)))])) _
        refine XS.lstore X0.here hx rfl (hb hby at_5) rfl (l' := #[.val (.long q1), .second, .val (.int p2), .val (.int p3), .val (.long (q1 &&& (9223372036854775807 : Int64))), .second, .unset, .unset, .unset, .unset, .unset, .unset, .unset, .unset, .unset]) rfl ?_
        show Steps p.tables e below (s₁.setTop (mkF m 7 #[.val (.long q1), .second, .val (.int p2), .val (.int p3), .val (.long (q1 &&& (9223372036854775807 : Int64))), .second, .unset, .unset, .unset, .unset, .unset, .unset, .unset, .unset, .unset] [])) _
        refine XS.iloadN X0.here hx rfl (hb hby at_7) rfl ?_
        show Steps p.tables e below (s₁.setTop (mkF m 8 #[.val (.long q1), .second, .val (.int p2), .val (.int p3), .val (.long (q1 &&& (9223372036854775807 : Int64))), .second, .unset, .unset, .unset, .unset, .unset, .unset, .unset, .unset, .unset] [(.int p2)])) _
        refine XS.iconst X0.here hx rfl (hb hby at_8) ?_
        show Steps p.tables e below (s₁.setTop (mkF m 9 #[.val (.long q1), .second, .val (.int p2), .val (.int p3), .val (.long (q1 &&& (9223372036854775807 : Int64))), .second, .unset, .unset, .unset, .unset, .unset, .unset, .unset, .unset, .unset] [(.int (3 : Int32)), (.int p2)])) _
        refine XS.iand X0.here hx rfl (hb hby at_9) rfl ?_
        show Steps p.tables e below (s₁.setTop (mkF m 10 #[.val (.long q1), .second, .val (.int p2), .val (.int p3), .val (.long (q1 &&& (9223372036854775807 : Int64))), .second, .unset, .unset, .unset, .unset, .unset, .unset, .unset, .unset, .unset] [(.int (p2 &&& (3 : Int32)))])) _
        refine XS.istore X0.here hx rfl (hb hby at_10) rfl (l' := #[.val (.long q1), .second, .val (.int p2), .val (.int p3), .val (.long (q1 &&& (9223372036854775807 : Int64))), .second, .val (.int (p2 &&& (3 : Int32))), .unset, .unset, .unset, .unset, .unset, .unset, .unset, .unset]) rfl ?_
        show Steps p.tables e below (s₁.setTop (mkF m 12 #[.val (.long q1), .second, .val (.int p2), .val (.int p3), .val (.long (q1 &&& (9223372036854775807 : Int64))), .second, .val (.int (p2 &&& (3 : Int32))), .unset, .unset, .unset, .unset, .unset, .unset, .unset, .unset] [])) _
        refine XS.iload X0.here hx rfl (hb hby at_12) rfl ?_
        show Steps p.tables e below (s₁.setTop (mkF m 14 #[.val (.long q1), .second, .val (.int p2), .val (.int p3), .val (.long (q1 &&& (9223372036854775807 : Int64))), .second, .val (.int (p2 &&& (3 : Int32))), .unset, .unset, .unset, .unset, .unset, .unset, .unset, .unset] [(.int (p2 &&& (3 : Int32)))])) _
        refine XS.iconst X0.here hx rfl (hb hby at_14) ?_
        show Steps p.tables e below (s₁.setTop (mkF m 15 #[.val (.long q1), .second, .val (.int p2), .val (.int p3), .val (.long (q1 &&& (9223372036854775807 : Int64))), .second, .val (.int (p2 &&& (3 : Int32))), .unset, .unset, .unset, .unset, .unset, .unset, .unset, .unset] [(.int (1 : Int32)), (.int (p2 &&& (3 : Int32)))])) _
        refine (show ∀ tt, Steps p.tables e below (s₁.setTop (mkF m 52 #[.val (.long q1), .second, .val (.int p2), .val (.int p3), .val (.long (q1 &&& (9223372036854775807 : Int64))), .second, .val (.int (p2 &&& (3 : Int32))), .val (.long bs), .second, .unset, .unset, .unset, .unset, .unset, .unset] [])) tt → Steps p.tables e below (s₁.setTop (mkF m 15 #[.val (.long q1), .second, .val (.int p2), .val (.int p3), .val (.long (q1 &&& (9223372036854775807 : Int64))), .second, .val (.int (p2 &&& (3 : Int32))), .unset, .unset, .unset, .unset, .unset, .unset, .unset, .unset] [(.int (1 : Int32)), (.int (p2 &&& (3 : Int32)))])) tt from ?_) _ ?_
        · intro tt kt
          by_cases h1 : (p2 &&& (3 : Int32)) = (1 : Int32)
          · rw [h_bs, if_pos h1] at kt
            show Steps p.tables e below (s₁.setTop (mkF m 15 #[.val (.long q1), .second, .val (.int p2), .val (.int p3), .val (.long (q1 &&& (9223372036854775807 : Int64))), .second, .val (.int (p2 &&& (3 : Int32))), .unset, .unset, .unset, .unset, .unset, .unset, .unset, .unset] [(.int (1 : Int32)), (.int (p2 &&& (3 : Int32)))])) _
            refine XS.icmpNo X0.here hx rfl (hb hby at_15) rfl (teq h1).2 ?_
            show Steps p.tables e below (s₁.setTop (mkF m 18 #[.val (.long q1), .second, .val (.int p2), .val (.int p3), .val (.long (q1 &&& (9223372036854775807 : Int64))), .second, .val (.int (p2 &&& (3 : Int32))), .unset, .unset, .unset, .unset, .unset, .unset, .unset, .unset] [])) _
            refine XS.lload X0.here hx rfl (hb hby at_18) rfl ?_
            show Steps p.tables e below (s₁.setTop (mkF m 20 #[.val (.long q1), .second, .val (.int p2), .val (.int p3), .val (.long (q1 &&& (9223372036854775807 : Int64))), .second, .val (.int (p2 &&& (3 : Int32))), .unset, .unset, .unset, .unset, .unset, .unset, .unset, .unset] [(.long (q1 &&& (9223372036854775807 : Int64)))])) _
            refine X0.ldc2J hx (v := (8191 : Int64)) hown (mvT hZ (hw _ (List.mem_of_getElem? (i := 15) rfl))) (g := (mkF m 20 #[.val (.long q1), .second, .val (.int p2), .val (.int p3), .val (.long (q1 &&& (9223372036854775807 : Int64))), .second, .val (.int (p2 &&& (3 : Int32))), .unset, .unset, .unset, .unset, .unset, .unset, .unset, .unset] [(.long (q1 &&& (9223372036854775807 : Int64)))])) rfl (hb hby at_20) ?_
            show Steps p.tables e below (s₁.setTop (mkF m 23 #[.val (.long q1), .second, .val (.int p2), .val (.int p3), .val (.long (q1 &&& (9223372036854775807 : Int64))), .second, .val (.int (p2 &&& (3 : Int32))), .unset, .unset, .unset, .unset, .unset, .unset, .unset, .unset] [(.long (8191 : Int64)), (.long (q1 &&& (9223372036854775807 : Int64)))])) _
            refine XS.land X0.here hx rfl (hb hby at_23) rfl ?_
            show Steps p.tables e below (s₁.setTop (mkF m 24 #[.val (.long q1), .second, .val (.int p2), .val (.int p3), .val (.long (q1 &&& (9223372036854775807 : Int64))), .second, .val (.int (p2 &&& (3 : Int32))), .unset, .unset, .unset, .unset, .unset, .unset, .unset, .unset] [(.long ((q1 &&& (9223372036854775807 : Int64)) &&& (8191 : Int64)))])) _
            refine XS.lstore X0.here hx rfl (hb hby at_24) rfl (l' := #[.val (.long q1), .second, .val (.int p2), .val (.int p3), .val (.long (q1 &&& (9223372036854775807 : Int64))), .second, .val (.int (p2 &&& (3 : Int32))), .val (.long ((q1 &&& (9223372036854775807 : Int64)) &&& (8191 : Int64))), .second, .unset, .unset, .unset, .unset, .unset, .unset]) rfl ?_
            show Steps p.tables e below (s₁.setTop (mkF m 26 #[.val (.long q1), .second, .val (.int p2), .val (.int p3), .val (.long (q1 &&& (9223372036854775807 : Int64))), .second, .val (.int (p2 &&& (3 : Int32))), .val (.long ((q1 &&& (9223372036854775807 : Int64)) &&& (8191 : Int64))), .second, .unset, .unset, .unset, .unset, .unset, .unset] [])) _
            refine XS.goto X0.here hx rfl (pc0 := 26) (pc' := 52) rfl (hb hby at_26) (by decide) (by decide) ?_
            exact kt
          · by_cases h2 : (p2 &&& (3 : Int32)) = (2 : Int32)
            · rw [h_bs, if_neg h1, if_pos h2] at kt
              show Steps p.tables e below (s₁.setTop (mkF m 15 #[.val (.long q1), .second, .val (.int p2), .val (.int p3), .val (.long (q1 &&& (9223372036854775807 : Int64))), .second, .val (.int (p2 &&& (3 : Int32))), .unset, .unset, .unset, .unset, .unset, .unset, .unset, .unset] [(.int (1 : Int32)), (.int (p2 &&& (3 : Int32)))])) _
              refine XS.icmpYes X0.here hx rfl (pc0 := 15) (pc' := 29) rfl (hb hby at_15) rfl (feq h1).2 (by decide) (by decide) ?_
              show Steps p.tables e below (s₁.setTop (mkF m 29 #[.val (.long q1), .second, .val (.int p2), .val (.int p3), .val (.long (q1 &&& (9223372036854775807 : Int64))), .second, .val (.int (p2 &&& (3 : Int32))), .unset, .unset, .unset, .unset, .unset, .unset, .unset, .unset] [])) _
              refine XS.iload X0.here hx rfl (hb hby at_29) rfl ?_
              show Steps p.tables e below (s₁.setTop (mkF m 31 #[.val (.long q1), .second, .val (.int p2), .val (.int p3), .val (.long (q1 &&& (9223372036854775807 : Int64))), .second, .val (.int (p2 &&& (3 : Int32))), .unset, .unset, .unset, .unset, .unset, .unset, .unset, .unset] [(.int (p2 &&& (3 : Int32)))])) _
              refine XS.iconst X0.here hx rfl (hb hby at_31) ?_
              show Steps p.tables e below (s₁.setTop (mkF m 32 #[.val (.long q1), .second, .val (.int p2), .val (.int p3), .val (.long (q1 &&& (9223372036854775807 : Int64))), .second, .val (.int (p2 &&& (3 : Int32))), .unset, .unset, .unset, .unset, .unset, .unset, .unset, .unset] [(.int (2 : Int32)), (.int (p2 &&& (3 : Int32)))])) _
              refine XS.icmpNo X0.here hx rfl (hb hby at_32) rfl (teq h2).2 ?_
              show Steps p.tables e below (s₁.setTop (mkF m 35 #[.val (.long q1), .second, .val (.int p2), .val (.int p3), .val (.long (q1 &&& (9223372036854775807 : Int64))), .second, .val (.int (p2 &&& (3 : Int32))), .unset, .unset, .unset, .unset, .unset, .unset, .unset, .unset] [])) _
              refine X0.ldc2J hx (v := (4095 : Int64)) hown (mvT hZ (hw _ (List.mem_of_getElem? (i := 1) rfl))) (g := (mkF m 35 #[.val (.long q1), .second, .val (.int p2), .val (.int p3), .val (.long (q1 &&& (9223372036854775807 : Int64))), .second, .val (.int (p2 &&& (3 : Int32))), .unset, .unset, .unset, .unset, .unset, .unset, .unset, .unset] [])) rfl (hb hby at_35) ?_
              show Steps p.tables e below (s₁.setTop (mkF m 38 #[.val (.long q1), .second, .val (.int p2), .val (.int p3), .val (.long (q1 &&& (9223372036854775807 : Int64))), .second, .val (.int (p2 &&& (3 : Int32))), .unset, .unset, .unset, .unset, .unset, .unset, .unset, .unset] [(.long (4095 : Int64))])) _
              refine XS.lload X0.here hx rfl (hb hby at_38) rfl ?_
              show Steps p.tables e below (s₁.setTop (mkF m 40 #[.val (.long q1), .second, .val (.int p2), .val (.int p3), .val (.long (q1 &&& (9223372036854775807 : Int64))), .second, .val (.int (p2 &&& (3 : Int32))), .unset, .unset, .unset, .unset, .unset, .unset, .unset, .unset] [(.long (q1 &&& (9223372036854775807 : Int64))), (.long (4095 : Int64))])) _
              refine XS.lconst X0.here hx rfl (hb hby at_40) ?_
              show Steps p.tables e below (s₁.setTop (mkF m 41 #[.val (.long q1), .second, .val (.int p2), .val (.int p3), .val (.long (q1 &&& (9223372036854775807 : Int64))), .second, .val (.int (p2 &&& (3 : Int32))), .unset, .unset, .unset, .unset, .unset, .unset, .unset, .unset] [(.long (1 : Int64)), (.long (q1 &&& (9223372036854775807 : Int64))), (.long (4095 : Int64))])) _
              refine XS.land X0.here hx rfl (hb hby at_41) rfl ?_
              show Steps p.tables e below (s₁.setTop (mkF m 42 #[.val (.long q1), .second, .val (.int p2), .val (.int p3), .val (.long (q1 &&& (9223372036854775807 : Int64))), .second, .val (.int (p2 &&& (3 : Int32))), .unset, .unset, .unset, .unset, .unset, .unset, .unset, .unset] [(.long ((q1 &&& (9223372036854775807 : Int64)) &&& (1 : Int64))), (.long (4095 : Int64))])) _
              refine XS.ladd X0.here hx rfl (hb hby at_42) rfl ?_
              show Steps p.tables e below (s₁.setTop (mkF m 43 #[.val (.long q1), .second, .val (.int p2), .val (.int p3), .val (.long (q1 &&& (9223372036854775807 : Int64))), .second, .val (.int (p2 &&& (3 : Int32))), .unset, .unset, .unset, .unset, .unset, .unset, .unset, .unset] [(.long ((4095 : Int64) + ((q1 &&& (9223372036854775807 : Int64)) &&& (1 : Int64))))])) _
              refine XS.lstore X0.here hx rfl (hb hby at_43) rfl (l' := #[.val (.long q1), .second, .val (.int p2), .val (.int p3), .val (.long (q1 &&& (9223372036854775807 : Int64))), .second, .val (.int (p2 &&& (3 : Int32))), .val (.long ((4095 : Int64) + ((q1 &&& (9223372036854775807 : Int64)) &&& (1 : Int64)))), .second, .unset, .unset, .unset, .unset, .unset, .unset]) rfl ?_
              show Steps p.tables e below (s₁.setTop (mkF m 45 #[.val (.long q1), .second, .val (.int p2), .val (.int p3), .val (.long (q1 &&& (9223372036854775807 : Int64))), .second, .val (.int (p2 &&& (3 : Int32))), .val (.long ((4095 : Int64) + ((q1 &&& (9223372036854775807 : Int64)) &&& (1 : Int64)))), .second, .unset, .unset, .unset, .unset, .unset, .unset] [])) _
              refine XS.goto X0.here hx rfl (pc0 := 45) (pc' := 52) rfl (hb hby at_45) (by decide) (by decide) ?_
              exact kt
            · rw [h_bs, if_neg h1, if_neg h2] at kt
              show Steps p.tables e below (s₁.setTop (mkF m 15 #[.val (.long q1), .second, .val (.int p2), .val (.int p3), .val (.long (q1 &&& (9223372036854775807 : Int64))), .second, .val (.int (p2 &&& (3 : Int32))), .unset, .unset, .unset, .unset, .unset, .unset, .unset, .unset] [(.int (1 : Int32)), (.int (p2 &&& (3 : Int32)))])) _
              refine XS.icmpYes X0.here hx rfl (pc0 := 15) (pc' := 29) rfl (hb hby at_15) rfl (feq h1).2 (by decide) (by decide) ?_
              show Steps p.tables e below (s₁.setTop (mkF m 29 #[.val (.long q1), .second, .val (.int p2), .val (.int p3), .val (.long (q1 &&& (9223372036854775807 : Int64))), .second, .val (.int (p2 &&& (3 : Int32))), .unset, .unset, .unset, .unset, .unset, .unset, .unset, .unset] [])) _
              refine XS.iload X0.here hx rfl (hb hby at_29) rfl ?_
              show Steps p.tables e below (s₁.setTop (mkF m 31 #[.val (.long q1), .second, .val (.int p2), .val (.int p3), .val (.long (q1 &&& (9223372036854775807 : Int64))), .second, .val (.int (p2 &&& (3 : Int32))), .unset, .unset, .unset, .unset, .unset, .unset, .unset, .unset] [(.int (p2 &&& (3 : Int32)))])) _
              refine XS.iconst X0.here hx rfl (hb hby at_31) ?_
              show Steps p.tables e below (s₁.setTop (mkF m 32 #[.val (.long q1), .second, .val (.int p2), .val (.int p3), .val (.long (q1 &&& (9223372036854775807 : Int64))), .second, .val (.int (p2 &&& (3 : Int32))), .unset, .unset, .unset, .unset, .unset, .unset, .unset, .unset] [(.int (2 : Int32)), (.int (p2 &&& (3 : Int32)))])) _
              refine XS.icmpYes X0.here hx rfl (pc0 := 32) (pc' := 48) rfl (hb hby at_32) rfl (feq h2).2 (by decide) (by decide) ?_
              show Steps p.tables e below (s₁.setTop (mkF m 48 #[.val (.long q1), .second, .val (.int p2), .val (.int p3), .val (.long (q1 &&& (9223372036854775807 : Int64))), .second, .val (.int (p2 &&& (3 : Int32))), .unset, .unset, .unset, .unset, .unset, .unset, .unset, .unset] [])) _
              refine XS.lload X0.here hx rfl (hb hby at_48) rfl ?_
              show Steps p.tables e below (s₁.setTop (mkF m 50 #[.val (.long q1), .second, .val (.int p2), .val (.int p3), .val (.long (q1 &&& (9223372036854775807 : Int64))), .second, .val (.int (p2 &&& (3 : Int32))), .unset, .unset, .unset, .unset, .unset, .unset, .unset, .unset] [(.long (q1 &&& (9223372036854775807 : Int64)))])) _
              refine XS.lstore X0.here hx rfl (hb hby at_50) rfl (l' := #[.val (.long q1), .second, .val (.int p2), .val (.int p3), .val (.long (q1 &&& (9223372036854775807 : Int64))), .second, .val (.int (p2 &&& (3 : Int32))), .val (.long (q1 &&& (9223372036854775807 : Int64))), .second, .unset, .unset, .unset, .unset, .unset, .unset]) rfl ?_
              exact kt
        show Steps p.tables e below (s₁.setTop (mkF m 52 #[.val (.long q1), .second, .val (.int p2), .val (.int p3), .val (.long (q1 &&& (9223372036854775807 : Int64))), .second, .val (.int (p2 &&& (3 : Int32))), .val (.long bs), .second, .unset, .unset, .unset, .unset, .unset, .unset] [])) _
        refine XS.iloadN X0.here hx rfl (hb hby at_52) rfl ?_
        show Steps p.tables e below (s₁.setTop (mkF m 53 #[.val (.long q1), .second, .val (.int p2), .val (.int p3), .val (.long (q1 &&& (9223372036854775807 : Int64))), .second, .val (.int (p2 &&& (3 : Int32))), .val (.long bs), .second, .unset, .unset, .unset, .unset, .unset, .unset] [(.int p3)])) _
        refine X0.ldcI hx (v := (2147483647 : Int32)) hown (mvT hZ (hw _ (List.mem_of_getElem? (i := 2) rfl))) (g := (mkF m 53 #[.val (.long q1), .second, .val (.int p2), .val (.int p3), .val (.long (q1 &&& (9223372036854775807 : Int64))), .second, .val (.int (p2 &&& (3 : Int32))), .val (.long bs), .second, .unset, .unset, .unset, .unset, .unset, .unset] [(.int p3)])) rfl (hb hby at_53) ?_
        show Steps p.tables e below (s₁.setTop (mkF m 55 #[.val (.long q1), .second, .val (.int p2), .val (.int p3), .val (.long (q1 &&& (9223372036854775807 : Int64))), .second, .val (.int (p2 &&& (3 : Int32))), .val (.long bs), .second, .unset, .unset, .unset, .unset, .unset, .unset] [(.int (2147483647 : Int32)), (.int p3)])) _
        refine XS.iand X0.here hx rfl (hb hby at_55) rfl ?_
        show Steps p.tables e below (s₁.setTop (mkF m 56 #[.val (.long q1), .second, .val (.int p2), .val (.int p3), .val (.long (q1 &&& (9223372036854775807 : Int64))), .second, .val (.int (p2 &&& (3 : Int32))), .val (.long bs), .second, .unset, .unset, .unset, .unset, .unset, .unset] [(.int (p3 &&& (2147483647 : Int32)))])) _
        refine XS.bipush X0.here hx rfl (hb hby at_56) ?_
        show Steps p.tables e below (s₁.setTop (mkF m 58 #[.val (.long q1), .second, .val (.int p2), .val (.int p3), .val (.long (q1 &&& (9223372036854775807 : Int64))), .second, .val (.int (p2 &&& (3 : Int32))), .val (.long bs), .second, .unset, .unset, .unset, .unset, .unset, .unset] [(.int (63 : Int32)), (.int (p3 &&& (2147483647 : Int32)))])) _
        refine iremM X0 hx rfl (hb hby at_58) rfl (by decide) ?_
        show Steps p.tables e below (s₁.setTop (mkF m 59 #[.val (.long q1), .second, .val (.int p2), .val (.int p3), .val (.long (q1 &&& (9223372036854775807 : Int64))), .second, .val (.int (p2 &&& (3 : Int32))), .val (.long bs), .second, .unset, .unset, .unset, .unset, .unset, .unset] [(.int ((p3 &&& (2147483647 : Int32)) % (63 : Int32)))])) _
        refine XS.istore X0.here hx rfl (hb hby at_59) rfl (l' := #[.val (.long q1), .second, .val (.int p2), .val (.int p3), .val (.long (q1 &&& (9223372036854775807 : Int64))), .second, .val (.int (p2 &&& (3 : Int32))), .val (.long bs), .second, .val (.int ((p3 &&& (2147483647 : Int32)) % (63 : Int32))), .unset, .unset, .unset, .unset, .unset]) rfl ?_
        show Steps p.tables e below (s₁.setTop (mkF m 61 #[.val (.long q1), .second, .val (.int p2), .val (.int p3), .val (.long (q1 &&& (9223372036854775807 : Int64))), .second, .val (.int (p2 &&& (3 : Int32))), .val (.long bs), .second, .val (.int ((p3 &&& (2147483647 : Int32)) % (63 : Int32))), .unset, .unset, .unset, .unset, .unset] [])) _
        refine XS.lconst X0.here hx rfl (hb hby at_61) ?_
        show Steps p.tables e below (s₁.setTop (mkF m 62 #[.val (.long q1), .second, .val (.int p2), .val (.int p3), .val (.long (q1 &&& (9223372036854775807 : Int64))), .second, .val (.int (p2 &&& (3 : Int32))), .val (.long bs), .second, .val (.int ((p3 &&& (2147483647 : Int32)) % (63 : Int32))), .unset, .unset, .unset, .unset, .unset] [(.long (1 : Int64))])) _
        refine XS.iload X0.here hx rfl (hb hby at_62) rfl ?_
        show Steps p.tables e below (s₁.setTop (mkF m 64 #[.val (.long q1), .second, .val (.int p2), .val (.int p3), .val (.long (q1 &&& (9223372036854775807 : Int64))), .second, .val (.int (p2 &&& (3 : Int32))), .val (.long bs), .second, .val (.int ((p3 &&& (2147483647 : Int32)) % (63 : Int32))), .unset, .unset, .unset, .unset, .unset] [(.int ((p3 &&& (2147483647 : Int32)) % (63 : Int32))), (.long (1 : Int64))])) _
        refine XS.lshl X0.here hx rfl (hb hby at_64) rfl ?_
        show Steps p.tables e below (s₁.setTop (mkF m 65 #[.val (.long q1), .second, .val (.int p2), .val (.int p3), .val (.long (q1 &&& (9223372036854775807 : Int64))), .second, .val (.int (p2 &&& (3 : Int32))), .val (.long bs), .second, .val (.int ((p3 &&& (2147483647 : Int32)) % (63 : Int32))), .unset, .unset, .unset, .unset, .unset] [(.long ((1 : Int64) <<< (((p3 &&& (2147483647 : Int32)) % (63 : Int32)) &&& 0x3f).toInt64))])) _
        refine XS.lstore X0.here hx rfl (hb hby at_65) rfl (l' := #[.val (.long q1), .second, .val (.int p2), .val (.int p3), .val (.long (q1 &&& (9223372036854775807 : Int64))), .second, .val (.int (p2 &&& (3 : Int32))), .val (.long bs), .second, .val (.int ((p3 &&& (2147483647 : Int32)) % (63 : Int32))), .val (.long ((1 : Int64) <<< (((p3 &&& (2147483647 : Int32)) % (63 : Int32)) &&& 0x3f).toInt64)), .second, .unset, .unset, .unset]) rfl ?_
        show Steps p.tables e below (s₁.setTop (mkF m 67 #[.val (.long q1), .second, .val (.int p2), .val (.int p3), .val (.long (q1 &&& (9223372036854775807 : Int64))), .second, .val (.int (p2 &&& (3 : Int32))), .val (.long bs), .second, .val (.int ((p3 &&& (2147483647 : Int32)) % (63 : Int32))), .val (.long ((1 : Int64) <<< (((p3 &&& (2147483647 : Int32)) % (63 : Int32)) &&& 0x3f).toInt64)), .second, .unset, .unset, .unset] [])) _
        rw [h_al2]
        show Steps p.tables e below (s₁.setTop (mkF m 67 #[.val (.long q1), .second, .val (.int p2), .val (.int p3), .val (.long (q1 &&& (9223372036854775807 : Int64))), .second, .val (.int (p2 &&& (3 : Int32))), .val (.long bs), .second, .val (.int ((p3 &&& (2147483647 : Int32)) % (63 : Int32))), .val (.long al), .second, .unset, .unset, .unset] [])) _
        refine XS.lload X0.here hx rfl (hb hby at_67) rfl ?_
        show Steps p.tables e below (s₁.setTop (mkF m 69 #[.val (.long q1), .second, .val (.int p2), .val (.int p3), .val (.long (q1 &&& (9223372036854775807 : Int64))), .second, .val (.int (p2 &&& (3 : Int32))), .val (.long bs), .second, .val (.int ((p3 &&& (2147483647 : Int32)) % (63 : Int32))), .val (.long al), .second, .unset, .unset, .unset] [(.long bs)])) _
        refine XS.lload X0.here hx rfl (hb hby at_69) rfl ?_
        show Steps p.tables e below (s₁.setTop (mkF m 71 #[.val (.long q1), .second, .val (.int p2), .val (.int p3), .val (.long (q1 &&& (9223372036854775807 : Int64))), .second, .val (.int (p2 &&& (3 : Int32))), .val (.long bs), .second, .val (.int ((p3 &&& (2147483647 : Int32)) % (63 : Int32))), .val (.long al), .second, .unset, .unset, .unset] [(.long al), (.long bs)])) _
        refine st1 _ ?_
        show Steps p.tables e below (T1.setTop (mkF m 74 #[.val (.long q1), .second, .val (.int p2), .val (.int p3), .val (.long (q1 &&& (9223372036854775807 : Int64))), .second, .val (.int (p2 &&& (3 : Int32))), .val (.long bs), .second, .val (.int ((p3 &&& (2147483647 : Int32)) % (63 : Int32))), .val (.long al), .second, .unset, .unset, .unset] [(.long (own_sa bs al))])) _
        rw [h_r2]
        show Steps p.tables e below (T1.setTop (mkF m 74 #[.val (.long q1), .second, .val (.int p2), .val (.int p3), .val (.long (q1 &&& (9223372036854775807 : Int64))), .second, .val (.int (p2 &&& (3 : Int32))), .val (.long bs), .second, .val (.int ((p3 &&& (2147483647 : Int32)) % (63 : Int32))), .val (.long al), .second, .unset, .unset, .unset] [(.long r)])) _
        refine XS.lstore X1.here hx rfl (hb hby at_74) rfl (l' := #[.val (.long q1), .second, .val (.int p2), .val (.int p3), .val (.long (q1 &&& (9223372036854775807 : Int64))), .second, .val (.int (p2 &&& (3 : Int32))), .val (.long bs), .second, .val (.int ((p3 &&& (2147483647 : Int32)) % (63 : Int32))), .val (.long al), .second, .val (.long r), .second, .unset]) rfl ?_
        show Steps p.tables e below (T1.setTop (mkF m 76 #[.val (.long q1), .second, .val (.int p2), .val (.int p3), .val (.long (q1 &&& (9223372036854775807 : Int64))), .second, .val (.int (p2 &&& (3 : Int32))), .val (.long bs), .second, .val (.int ((p3 &&& (2147483647 : Int32)) % (63 : Int32))), .val (.long al), .second, .val (.long r), .second, .unset] [])) _
        refine XS.lload X1.here hx rfl (hb hby at_76) rfl ?_
        show Steps p.tables e below (T1.setTop (mkF m 78 #[.val (.long q1), .second, .val (.int p2), .val (.int p3), .val (.long (q1 &&& (9223372036854775807 : Int64))), .second, .val (.int (p2 &&& (3 : Int32))), .val (.long bs), .second, .val (.int ((p3 &&& (2147483647 : Int32)) % (63 : Int32))), .val (.long al), .second, .val (.long r), .second, .unset] [(.long r)])) _
        refine XS.lconst X1.here hx rfl (hb hby at_78) ?_
        show Steps p.tables e below (T1.setTop (mkF m 79 #[.val (.long q1), .second, .val (.int p2), .val (.int p3), .val (.long (q1 &&& (9223372036854775807 : Int64))), .second, .val (.int (p2 &&& (3 : Int32))), .val (.long bs), .second, .val (.int ((p3 &&& (2147483647 : Int32)) % (63 : Int32))), .val (.long al), .second, .val (.long r), .second, .unset] [(.long (0 : Int64)), (.long r)])) _
        refine XS.lcmp X1.here hx rfl (hb hby at_79) rfl ?_
        show Steps p.tables e below (T1.setTop (mkF m 80 #[.val (.long q1), .second, .val (.int p2), .val (.int p3), .val (.long (q1 &&& (9223372036854775807 : Int64))), .second, .val (.int (p2 &&& (3 : Int32))), .val (.long bs), .second, .val (.int ((p3 &&& (2147483647 : Int32)) % (63 : Int32))), .val (.long al), .second, .val (.long r), .second, .unset] [(.int (lcmpW r (0 : Int64)))])) _
        refine XS.ifNo X1.here hx rfl (hb hby at_80) rfl (Jvm.Free.XT.ll_le_f f2.1.1) ?_
        show Steps p.tables e below (T1.setTop (mkF m 83 #[.val (.long q1), .second, .val (.int p2), .val (.int p3), .val (.long (q1 &&& (9223372036854775807 : Int64))), .second, .val (.int (p2 &&& (3 : Int32))), .val (.long bs), .second, .val (.int ((p3 &&& (2147483647 : Int32)) % (63 : Int32))), .val (.long al), .second, .val (.long r), .second, .unset] [])) _
        refine XS.lload X1.here hx rfl (hb hby at_83) rfl ?_
        show Steps p.tables e below (T1.setTop (mkF m 85 #[.val (.long q1), .second, .val (.int p2), .val (.int p3), .val (.long (q1 &&& (9223372036854775807 : Int64))), .second, .val (.int (p2 &&& (3 : Int32))), .val (.long bs), .second, .val (.int ((p3 &&& (2147483647 : Int32)) % (63 : Int32))), .val (.long al), .second, .val (.long r), .second, .unset] [(.long r)])) _
        refine XS.lload X1.here hx rfl (hb hby at_85) rfl ?_
        show Steps p.tables e below (T1.setTop (mkF m 87 #[.val (.long q1), .second, .val (.int p2), .val (.int p3), .val (.long (q1 &&& (9223372036854775807 : Int64))), .second, .val (.int (p2 &&& (3 : Int32))), .val (.long bs), .second, .val (.int ((p3 &&& (2147483647 : Int32)) % (63 : Int32))), .val (.long al), .second, .val (.long r), .second, .unset] [(.long r), (.long r)])) _
        refine XS.lconst X1.here hx rfl (hb hby at_87) ?_
        show Steps p.tables e below (T1.setTop (mkF m 88 #[.val (.long q1), .second, .val (.int p2), .val (.int p3), .val (.long (q1 &&& (9223372036854775807 : Int64))), .second, .val (.int (p2 &&& (3 : Int32))), .val (.long bs), .second, .val (.int ((p3 &&& (2147483647 : Int32)) % (63 : Int32))), .val (.long al), .second, .val (.long r), .second, .unset] [(.long (1 : Int64)), (.long r), (.long r)])) _
        refine XS.lsub X1.here hx rfl (hb hby at_88) rfl ?_
        show Steps p.tables e below (T1.setTop (mkF m 89 #[.val (.long q1), .second, .val (.int p2), .val (.int p3), .val (.long (q1 &&& (9223372036854775807 : Int64))), .second, .val (.int (p2 &&& (3 : Int32))), .val (.long bs), .second, .val (.int ((p3 &&& (2147483647 : Int32)) % (63 : Int32))), .val (.long al), .second, .val (.long r), .second, .unset] [(.long (r - (1 : Int64))), (.long r)])) _
        refine XS.land X1.here hx rfl (hb hby at_89) rfl ?_
        show Steps p.tables e below (T1.setTop (mkF m 90 #[.val (.long q1), .second, .val (.int p2), .val (.int p3), .val (.long (q1 &&& (9223372036854775807 : Int64))), .second, .val (.int (p2 &&& (3 : Int32))), .val (.long bs), .second, .val (.int ((p3 &&& (2147483647 : Int32)) % (63 : Int32))), .val (.long al), .second, .val (.long r), .second, .unset] [(.long (r &&& (r - (1 : Int64))))])) _
        refine XS.lconst X1.here hx rfl (hb hby at_90) ?_
        show Steps p.tables e below (T1.setTop (mkF m 91 #[.val (.long q1), .second, .val (.int p2), .val (.int p3), .val (.long (q1 &&& (9223372036854775807 : Int64))), .second, .val (.int (p2 &&& (3 : Int32))), .val (.long bs), .second, .val (.int ((p3 &&& (2147483647 : Int32)) % (63 : Int32))), .val (.long al), .second, .val (.long r), .second, .unset] [(.long (0 : Int64)), (.long (r &&& (r - (1 : Int64))))])) _
        refine XS.lcmp X1.here hx rfl (hb hby at_91) rfl ?_
        show Steps p.tables e below (T1.setTop (mkF m 92 #[.val (.long q1), .second, .val (.int p2), .val (.int p3), .val (.long (q1 &&& (9223372036854775807 : Int64))), .second, .val (.int (p2 &&& (3 : Int32))), .val (.long bs), .second, .val (.int ((p3 &&& (2147483647 : Int32)) % (63 : Int32))), .val (.long al), .second, .val (.long r), .second, .unset] [(.int (lcmpW (r &&& (r - (1 : Int64))) (0 : Int64)))])) _
        refine XS.ifNo X1.here hx rfl (hb hby at_92) rfl (Jvm.Free.XT.ll_ne_f f2.1.2) ?_
        show Steps p.tables e below (T1.setTop (mkF m 95 #[.val (.long q1), .second, .val (.int p2), .val (.int p3), .val (.long (q1 &&& (9223372036854775807 : Int64))), .second, .val (.int (p2 &&& (3 : Int32))), .val (.long bs), .second, .val (.int ((p3 &&& (2147483647 : Int32)) % (63 : Int32))), .val (.long al), .second, .val (.long r), .second, .unset] [])) _
        refine XS.iconst X1.here hx rfl (hb hby at_95) ?_
        show Steps p.tables e below (T1.setTop (mkF m 96 #[.val (.long q1), .second, .val (.int p2), .val (.int p3), .val (.long (q1 &&& (9223372036854775807 : Int64))), .second, .val (.int (p2 &&& (3 : Int32))), .val (.long bs), .second, .val (.int ((p3 &&& (2147483647 : Int32)) % (63 : Int32))), .val (.long al), .second, .val (.long r), .second, .unset] [(.int (1 : Int32))])) _
        refine XS.goto X1.here hx rfl (pc0 := 96) (pc' := 100) rfl (hb hby at_96) (by decide) (by decide) ?_
        show Steps p.tables e below (T1.setTop (mkF m 100 #[.val (.long q1), .second, .val (.int p2), .val (.int p3), .val (.long (q1 &&& (9223372036854775807 : Int64))), .second, .val (.int (p2 &&& (3 : Int32))), .val (.long bs), .second, .val (.int ((p3 &&& (2147483647 : Int32)) % (63 : Int32))), .val (.long al), .second, .val (.long r), .second, .unset] [(.int (1 : Int32))])) _
        refine XS.istore X1.here hx rfl (hb hby at_100) rfl (l' := #[.val (.long q1), .second, .val (.int p2), .val (.int p3), .val (.long (q1 &&& (9223372036854775807 : Int64))), .second, .val (.int (p2 &&& (3 : Int32))), .val (.long bs), .second, .val (.int ((p3 &&& (2147483647 : Int32)) % (63 : Int32))), .val (.long al), .second, .val (.long r), .second, .val (.int (1 : Int32))]) rfl ?_
        show Steps p.tables e below (T1.setTop (mkF m 102 #[.val (.long q1), .second, .val (.int p2), .val (.int p3), .val (.long (q1 &&& (9223372036854775807 : Int64))), .second, .val (.int (p2 &&& (3 : Int32))), .val (.long bs), .second, .val (.int ((p3 &&& (2147483647 : Int32)) % (63 : Int32))), .val (.long al), .second, .val (.long r), .second, .val (.int (1 : Int32))] [])) _
        refine XS.iload X1.here hx rfl (hb hby at_102) rfl ?_
        show Steps p.tables e below (T1.setTop (mkF m 104 #[.val (.long q1), .second, .val (.int p2), .val (.int p3), .val (.long (q1 &&& (9223372036854775807 : Int64))), .second, .val (.int (p2 &&& (3 : Int32))), .val (.long bs), .second, .val (.int ((p3 &&& (2147483647 : Int32)) % (63 : Int32))), .val (.long al), .second, .val (.long r), .second, .val (.int (1 : Int32))] [(.int (1 : Int32))])) _
        refine XS.ifYes X1.here hx rfl (pc0 := 104) (pc' := 109) rfl (hb hby at_104) rfl ((if0 _ _).trans (feq (by decide)).2) (by decide) (by decide) ?_
        show Steps p.tables e below (T1.setTop (mkF m 109 #[.val (.long q1), .second, .val (.int p2), .val (.int p3), .val (.long (q1 &&& (9223372036854775807 : Int64))), .second, .val (.int (p2 &&& (3 : Int32))), .val (.long bs), .second, .val (.int ((p3 &&& (2147483647 : Int32)) % (63 : Int32))), .val (.long al), .second, .val (.long r), .second, .val (.int (1 : Int32))] [])) _
        refine XS.lload X1.here hx rfl (hb hby at_109) rfl ?_
        show Steps p.tables e below (T1.setTop (mkF m 111 #[.val (.long q1), .second, .val (.int p2), .val (.int p3), .val (.long (q1 &&& (9223372036854775807 : Int64))), .second, .val (.int (p2 &&& (3 : Int32))), .val (.long bs), .second, .val (.int ((p3 &&& (2147483647 : Int32)) % (63 : Int32))), .val (.long al), .second, .val (.long r), .second, .val (.int (1 : Int32))] [(.long r)])) _
        refine XS.lload X1.here hx rfl (hb hby at_111) rfl ?_
        show Steps p.tables e below (T1.setTop (mkF m 113 #[.val (.long q1), .second, .val (.int p2), .val (.int p3), .val (.long (q1 &&& (9223372036854775807 : Int64))), .second, .val (.int (p2 &&& (3 : Int32))), .val (.long bs), .second, .val (.int ((p3 &&& (2147483647 : Int32)) % (63 : Int32))), .val (.long al), .second, .val (.long r), .second, .val (.int (1 : Int32))] [(.long al), (.long r)])) _
        refine XS.lrem X1.here hx rfl (hb hby at_113) rfl f1 ?_
        show Steps p.tables e below (T1.setTop (mkF m 114 #[.val (.long q1), .second, .val (.int p2), .val (.int p3), .val (.long (q1 &&& (9223372036854775807 : Int64))), .second, .val (.int (p2 &&& (3 : Int32))), .val (.long bs), .second, .val (.int ((p3 &&& (2147483647 : Int32)) % (63 : Int32))), .val (.long al), .second, .val (.long r), .second, .val (.int (1 : Int32))] [(.long (r - (r / al) * al))])) _
        refine XS.lconst X1.here hx rfl (hb hby at_114) ?_
        show Steps p.tables e below (T1.setTop (mkF m 115 #[.val (.long q1), .second, .val (.int p2), .val (.int p3), .val (.long (q1 &&& (9223372036854775807 : Int64))), .second, .val (.int (p2 &&& (3 : Int32))), .val (.long bs), .second, .val (.int ((p3 &&& (2147483647 : Int32)) % (63 : Int32))), .val (.long al), .second, .val (.long r), .second, .val (.int (1 : Int32))] [(.long (0 : Int64)), (.long (r - (r / al) * al))])) _
        refine XS.lcmp X1.here hx rfl (hb hby at_115) rfl ?_
        show Steps p.tables e below (T1.setTop (mkF m 116 #[.val (.long q1), .second, .val (.int p2), .val (.int p3), .val (.long (q1 &&& (9223372036854775807 : Int64))), .second, .val (.int (p2 &&& (3 : Int32))), .val (.long bs), .second, .val (.int ((p3 &&& (2147483647 : Int32)) % (63 : Int32))), .val (.long al), .second, .val (.long r), .second, .val (.int (1 : Int32))] [(.int (lcmpW (r - (r / al) * al) (0 : Int64)))])) _
        refine XS.ifYes X1.here hx rfl (pc0 := 116) (pc' := 121) rfl (hb hby at_116) rfl (Jvm.Free.XT.ll_eq_t f2.2) (by decide) (by decide) ?_
        show Steps p.tables e below (T1.setTop (mkF m 121 #[.val (.long q1), .second, .val (.int p2), .val (.int p3), .val (.long (q1 &&& (9223372036854775807 : Int64))), .second, .val (.int (p2 &&& (3 : Int32))), .val (.long bs), .second, .val (.int ((p3 &&& (2147483647 : Int32)) % (63 : Int32))), .val (.long al), .second, .val (.long r), .second, .val (.int (1 : Int32))] [])) _
        refine XS.lload X1.here hx rfl (hb hby at_121) rfl ?_
        show Steps p.tables e below (T1.setTop (mkF m 123 #[.val (.long q1), .second, .val (.int p2), .val (.int p3), .val (.long (q1 &&& (9223372036854775807 : Int64))), .second, .val (.int (p2 &&& (3 : Int32))), .val (.long bs), .second, .val (.int ((p3 &&& (2147483647 : Int32)) % (63 : Int32))), .val (.long al), .second, .val (.long r), .second, .val (.int (1 : Int32))] [(.long bs)])) _
        refine X1.ldc2J hx (v := (4096 : Int64)) hown (mvT hZ (hw _ (List.mem_of_getElem? (i := 13) rfl))) (g := (mkF m 123 #[.val (.long q1), .second, .val (.int p2), .val (.int p3), .val (.long (q1 &&& (9223372036854775807 : Int64))), .second, .val (.int (p2 &&& (3 : Int32))), .val (.long bs), .second, .val (.int ((p3 &&& (2147483647 : Int32)) % (63 : Int32))), .val (.long al), .second, .val (.long r), .second, .val (.int (1 : Int32))] [(.long bs)])) rfl (hb hby at_123) ?_
        show Steps p.tables e below (T1.setTop (mkF m 126 #[.val (.long q1), .second, .val (.int p2), .val (.int p3), .val (.long (q1 &&& (9223372036854775807 : Int64))), .second, .val (.int (p2 &&& (3 : Int32))), .val (.long bs), .second, .val (.int ((p3 &&& (2147483647 : Int32)) % (63 : Int32))), .val (.long al), .second, .val (.long r), .second, .val (.int (1 : Int32))] [(.long (4096 : Int64)), (.long bs)])) _
        refine XS.lcmp X1.here hx rfl (hb hby at_126) rfl ?_
        show Steps p.tables e below (T1.setTop (mkF m 127 #[.val (.long q1), .second, .val (.int p2), .val (.int p3), .val (.long (q1 &&& (9223372036854775807 : Int64))), .second, .val (.int (p2 &&& (3 : Int32))), .val (.long bs), .second, .val (.int ((p3 &&& (2147483647 : Int32)) % (63 : Int32))), .val (.long al), .second, .val (.long r), .second, .val (.int (1 : Int32))] [(.int (lcmpW bs (4096 : Int64)))])) _
        refine XS.ifYes X1.here hx rfl (pc0 := 127) (pc' := 144) rfl (hb hby at_127) rfl (Jvm.Free.XT.ll_ge_t hbs) (by decide) (by decide) ?_
        show Steps p.tables e below (T1.setTop (mkF m 144 #[.val (.long q1), .second, .val (.int p2), .val (.int p3), .val (.long (q1 &&& (9223372036854775807 : Int64))), .second, .val (.int (p2 &&& (3 : Int32))), .val (.long bs), .second, .val (.int ((p3 &&& (2147483647 : Int32)) % (63 : Int32))), .val (.long al), .second, .val (.long r), .second, .val (.int (1 : Int32))] [])) _
        refine XS.lload X1.here hx rfl (hb hby at_144) rfl ?_
        show Steps p.tables e below (T1.setTop (mkF m 146 #[.val (.long q1), .second, .val (.int p2), .val (.int p3), .val (.long (q1 &&& (9223372036854775807 : Int64))), .second, .val (.int (p2 &&& (3 : Int32))), .val (.long bs), .second, .val (.int ((p3 &&& (2147483647 : Int32)) % (63 : Int32))), .val (.long al), .second, .val (.long r), .second, .val (.int (1 : Int32))] [(.long r)])) _
        refine X1.ldc2J hx (v := (64 : Int64)) hown (mvT hZ (hw _ (List.mem_of_getElem? (i := 14) rfl))) (g := (mkF m 146 #[.val (.long q1), .second, .val (.int p2), .val (.int p3), .val (.long (q1 &&& (9223372036854775807 : Int64))), .second, .val (.int (p2 &&& (3 : Int32))), .val (.long bs), .second, .val (.int ((p3 &&& (2147483647 : Int32)) % (63 : Int32))), .val (.long al), .second, .val (.long r), .second, .val (.int (1 : Int32))] [(.long r)])) rfl (hb hby at_146) ?_
        show Steps p.tables e below (T1.setTop (mkF m 149 #[.val (.long q1), .second, .val (.int p2), .val (.int p3), .val (.long (q1 &&& (9223372036854775807 : Int64))), .second, .val (.int (p2 &&& (3 : Int32))), .val (.long bs), .second, .val (.int ((p3 &&& (2147483647 : Int32)) % (63 : Int32))), .val (.long al), .second, .val (.long r), .second, .val (.int (1 : Int32))] [(.long (64 : Int64)), (.long r)])) _
        refine XS.lrem X1.here hx rfl (hb hby at_149) rfl (by decide) ?_
        show Steps p.tables e below (T1.setTop (mkF m 150 #[.val (.long q1), .second, .val (.int p2), .val (.int p3), .val (.long (q1 &&& (9223372036854775807 : Int64))), .second, .val (.int (p2 &&& (3 : Int32))), .val (.long bs), .second, .val (.int ((p3 &&& (2147483647 : Int32)) % (63 : Int32))), .val (.long al), .second, .val (.long r), .second, .val (.int (1 : Int32))] [(.long (r - (r / (64 : Int64)) * (64 : Int64)))])) _
        refine XS.lconst X1.here hx rfl (hb hby at_150) ?_
        show Steps p.tables e below (T1.setTop (mkF m 151 #[.val (.long q1), .second, .val (.int p2), .val (.int p3), .val (.long (q1 &&& (9223372036854775807 : Int64))), .second, .val (.int (p2 &&& (3 : Int32))), .val (.long bs), .second, .val (.int ((p3 &&& (2147483647 : Int32)) % (63 : Int32))), .val (.long al), .second, .val (.long r), .second, .val (.int (1 : Int32))] [(.long (0 : Int64)), (.long (r - (r / (64 : Int64)) * (64 : Int64)))])) _
        refine XS.lcmp X1.here hx rfl (hb hby at_151) rfl ?_
        show Steps p.tables e below (T1.setTop (mkF m 152 #[.val (.long q1), .second, .val (.int p2), .val (.int p3), .val (.long (q1 &&& (9223372036854775807 : Int64))), .second, .val (.int (p2 &&& (3 : Int32))), .val (.long bs), .second, .val (.int ((p3 &&& (2147483647 : Int32)) % (63 : Int32))), .val (.long al), .second, .val (.long r), .second, .val (.int (1 : Int32))] [(.int (lcmpW (r - (r / (64 : Int64)) * (64 : Int64)) (0 : Int64)))])) _
        refine XS.ifNo X1.here hx rfl (hb hby at_152) rfl (Jvm.Free.XT.ll_ne_f (f4 hbs).1) ?_
        show Steps p.tables e below (T1.setTop (mkF m 155 #[.val (.long q1), .second, .val (.int p2), .val (.int p3), .val (.long (q1 &&& (9223372036854775807 : Int64))), .second, .val (.int (p2 &&& (3 : Int32))), .val (.long bs), .second, .val (.int ((p3 &&& (2147483647 : Int32)) % (63 : Int32))), .val (.long al), .second, .val (.long r), .second, .val (.int (1 : Int32))] [])) _
        refine XS.lload X1.here hx rfl (hb hby at_155) rfl ?_
        show Steps p.tables e below (T1.setTop (mkF m 157 #[.val (.long q1), .second, .val (.int p2), .val (.int p3), .val (.long (q1 &&& (9223372036854775807 : Int64))), .second, .val (.int (p2 &&& (3 : Int32))), .val (.long bs), .second, .val (.int ((p3 &&& (2147483647 : Int32)) % (63 : Int32))), .val (.long al), .second, .val (.long r), .second, .val (.int (1 : Int32))] [(.long r)])) _
        refine XS.lload X1.here hx rfl (hb hby at_157) rfl ?_
        show Steps p.tables e below (T1.setTop (mkF m 159 #[.val (.long q1), .second, .val (.int p2), .val (.int p3), .val (.long (q1 &&& (9223372036854775807 : Int64))), .second, .val (.int (p2 &&& (3 : Int32))), .val (.long bs), .second, .val (.int ((p3 &&& (2147483647 : Int32)) % (63 : Int32))), .val (.long al), .second, .val (.long r), .second, .val (.int (1 : Int32))] [(.long al), (.long r)])) _
        refine XS.lcmp X1.here hx rfl (hb hby at_159) rfl ?_
        show Steps p.tables e below (T1.setTop (mkF m 160 #[.val (.long q1), .second, .val (.int p2), .val (.int p3), .val (.long (q1 &&& (9223372036854775807 : Int64))), .second, .val (.int (p2 &&& (3 : Int32))), .val (.long bs), .second, .val (.int ((p3 &&& (2147483647 : Int32)) % (63 : Int32))), .val (.long al), .second, .val (.long r), .second, .val (.int (1 : Int32))] [(.int (lcmpW r al))])) _
        refine XS.ifYes X1.here hx rfl (pc0 := 160) (pc' := 172) rfl (hb hby at_160) rfl (Jvm.Free.XT.ll_eq_t he) (by decide) (by decide) ?_
        show Steps p.tables e below (T1.setTop (mkF m 172 #[.val (.long q1), .second, .val (.int p2), .val (.int p3), .val (.long (q1 &&& (9223372036854775807 : Int64))), .second, .val (.int (p2 &&& (3 : Int32))), .val (.long bs), .second, .val (.int ((p3 &&& (2147483647 : Int32)) % (63 : Int32))), .val (.long al), .second, .val (.long r), .second, .val (.int (1 : Int32))] [])) _
        refine XS.iconst X1.here hx rfl (hb hby at_172) ?_
        show Steps p.tables e below (T1.setTop (mkF m 173 #[.val (.long q1), .second, .val (.int p2), .val (.int p3), .val (.long (q1 &&& (9223372036854775807 : Int64))), .second, .val (.int (p2 &&& (3 : Int32))), .val (.long bs), .second, .val (.int ((p3 &&& (2147483647 : Int32)) % (63 : Int32))), .val (.long al), .second, .val (.long r), .second, .val (.int (1 : Int32))] [(.int (1 : Int32))])) _
        refine XS.goto X1.here hx rfl (pc0 := 173) (pc' := 177) rfl (hb hby at_173) (by decide) (by decide) ?_
        show Steps p.tables e below (T1.setTop (mkF m 177 #[.val (.long q1), .second, .val (.int p2), .val (.int p3), .val (.long (q1 &&& (9223372036854775807 : Int64))), .second, .val (.int (p2 &&& (3 : Int32))), .val (.long bs), .second, .val (.int ((p3 &&& (2147483647 : Int32)) % (63 : Int32))), .val (.long al), .second, .val (.long r), .second, .val (.int (1 : Int32))] [(.int (1 : Int32))])) _
        exact retN X1 hx (t := .boolean) Bd.returns (by simp) (hb hby at_177) hr
      · show Q_law Z q1 p2 p3 h0 n0 _ T1.heap _
        rw [e1]
        exact ⟨rfl, N1⟩
    · obtain ⟨fs, hr, hrun, hended, hW, hsame⟩ := X1.leave (v := some (.int (1 : Int32))) (fun h => by rw [Bd.returns] at h; cases h)
      refine ⟨_, _, pre0 _ ?_, hrun, hended, _, _, rfl, ?_, ⟨_, rfl⟩, hW, hsame.mono (by decide) (by decide)⟩
      · show Steps p.tables e below (s₁.setTop (mkF m 0 #[.val (.long q1), .second, .val (.int p2), .val (.int p3), .unset, .unset, .unset, .unset, .unset, .unset, .unset, .unset, .unset, .unset, .unset] [])) _
        refine XS.lloadN X0.here hx rfl (hb hby at_0) rfl ?_
        show Steps p.tables e below (s₁.setTop (mkF m 1 #[.val (.long q1), .second, .val (.int p2), .val (.int p3), .unset, .unset, .unset, .unset, .unset, .unset, .unset, .unset, .unset, .unset, .unset] [(.long q1)])) _
        refine X0.ldc2J hx (v := (9223372036854775807 : Int64)) hown (mvT hZ (hw _ (List.mem_of_getElem? (i := 0) rfl))) (g := (mkF m 1 #[.val (.long q1), .second, .val (.int p2), .val (.int p3), .unset, .unset, .unset, .unset, .unset, .unset, .unset, .unset, .unset, .unset, .unset] [(.long q1)])) rfl (hb hby at_1) ?_
        show Steps p.tables e below (s₁.setTop (mkF m 4 #[.val (.long q1), .second, .val (.int p2), .val (.int p3), .unset, .unset, .unset, .unset, .unset, .unset, .unset, .unset, .unset, .unset, .unset] [(.long (9223372036854775807 : Int64)), (.long q1)])) _
        refine XS.land X0.here hx rfl (hb hby at_4) rfl ?_
        show Steps p.tables e below (s₁.setTop (mkF m 5 #[.val (.long q1), .second, .val (.int p2), .val (.int p3), .unset, .unset, .unset, .unset, .unset, .unset, .unset, .unset, .unset, .unset, .unset] [(.long (q1 &&& (9223372036854775807 : Int64)))])) _
        refine XS.lstore X0.here hx rfl (hb hby at_5) rfl (l' := #[.val (.long q1), .second, .val (.int p2), .val (.int p3), .val (.long (q1 &&& (9223372036854775807 : Int64))), .second, .unset, .unset, .unset, .unset, .unset, .unset, .unset, .unset, .unset]) rfl ?_
        show Steps p.tables e below (s₁.setTop (mkF m 7 #[.val (.long q1), .second, .val (.int p2), .val (.int p3), .val (.long (q1 &&& (9223372036854775807 : Int64))), .second, .unset, .unset, .unset, .unset, .unset, .unset, .unset, .unset, .unset] [])) _
        refine XS.iloadN X0.here hx rfl (hb hby at_7) rfl ?_
        show Steps p.tables e below (s₁.setTop (mkF m 8 #[.val (.long q1), .second, .val (.int p2), .val (.int p3), .val (.long (q1 &&& (9223372036854775807 : Int64))), .second, .unset, .unset, .unset, .unset, .unset, .unset, .unset, .unset, .unset] [(.int p2)])) _
        refine XS.iconst X0.here hx rfl (hb hby at_8) ?_
        show Steps p.tables e below (s₁.setTop (mkF m 9 #[.val (.long q1), .second, .val (.int p2), .val (.int p3), .val (.long (q1 &&& (9223372036854775807 : Int64))), .second, .unset, .unset, .unset, .unset, .unset, .unset, .unset, .unset, .unset] [(.int (3 : Int32)), (.int p2)])) _
        refine XS.iand X0.here hx rfl (hb hby at_9) rfl ?_
        show Steps p.tables e below (s₁.setTop (mkF m 10 #[.val (.long q1), .second, .val (.int p2), .val (.int p3), .val (.long (q1 &&& (9223372036854775807 : Int64))), .second, .unset, .unset, .unset, .unset, .unset, .unset, .unset, .unset, .unset] [(.int (p2 &&& (3 : Int32)))])) _
        refine XS.istore X0.here hx rfl (hb hby at_10) rfl (l' := #[.val (.long q1), .second, .val (.int p2), .val (.int p3), .val (.long (q1 &&& (9223372036854775807 : Int64))), .second, .val (.int (p2 &&& (3 : Int32))), .unset, .unset, .unset, .unset, .unset, .unset, .unset, .unset]) rfl ?_
        show Steps p.tables e below (s₁.setTop (mkF m 12 #[.val (.long q1), .second, .val (.int p2), .val (.int p3), .val (.long (q1 &&& (9223372036854775807 : Int64))), .second, .val (.int (p2 &&& (3 : Int32))), .unset, .unset, .unset, .unset, .unset, .unset, .unset, .unset] [])) _
        refine XS.iload X0.here hx rfl (hb hby at_12) rfl ?_
        show Steps p.tables e below (s₁.setTop (mkF m 14 #[.val (.long q1), .second, .val (.int p2), .val (.int p3), .val (.long (q1 &&& (9223372036854775807 : Int64))), .second, .val (.int (p2 &&& (3 : Int32))), .unset, .unset, .unset, .unset, .unset, .unset, .unset, .unset] [(.int (p2 &&& (3 : Int32)))])) _
        refine XS.iconst X0.here hx rfl (hb hby at_14) ?_
        show Steps p.tables e below (s₁.setTop (mkF m 15 #[.val (.long q1), .second, .val (.int p2), .val (.int p3), .val (.long (q1 &&& (9223372036854775807 : Int64))), .second, .val (.int (p2 &&& (3 : Int32))), .unset, .unset, .unset, .unset, .unset, .unset, .unset, .unset] [(.int (1 : Int32)), (.int (p2 &&& (3 : Int32)))])) _
        refine (show ∀ tt, Steps p.tables e below (s₁.setTop (mkF m 52 #[.val (.long q1), .second, .val (.int p2), .val (.int p3), .val (.long (q1 &&& (9223372036854775807 : Int64))), .second, .val (.int (p2 &&& (3 : Int32))), .val (.long bs), .second, .unset, .unset, .unset, .unset, .unset, .unset] [])) tt → Steps p.tables e below (s₁.setTop (mkF m 15 #[.val (.long q1), .second, .val (.int p2), .val (.int p3), .val (.long (q1 &&& (9223372036854775807 : Int64))), .second, .val (.int (p2 &&& (3 : Int32))), .unset, .unset, .unset, .unset, .unset, .unset, .unset, .unset] [(.int (1 : Int32)), (.int (p2 &&& (3 : Int32)))])) tt from ?_) _ ?_
        · intro tt kt
          by_cases h1 : (p2 &&& (3 : Int32)) = (1 : Int32)
          · rw [h_bs, if_pos h1] at kt
            show Steps p.tables e below (s₁.setTop (mkF m 15 #[.val (.long q1), .second, .val (.int p2), .val (.int p3), .val (.long (q1 &&& (9223372036854775807 : Int64))), .second, .val (.int (p2 &&& (3 : Int32))), .unset, .unset, .unset, .unset, .unset, .unset, .unset, .unset] [(.int (1 : Int32)), (.int (p2 &&& (3 : Int32)))])) _
            refine XS.icmpNo X0.here hx rfl (hb hby at_15) rfl (teq h1).2 ?_
            show Steps p.tables e below (s₁.setTop (mkF m 18 #[.val (.long q1), .second, .val (.int p2), .val (.int p3), .val (.long (q1 &&& (9223372036854775807 : Int64))), .second, .val (.int (p2 &&& (3 : Int32))), .unset, .unset, .unset, .unset, .unset, .unset, .unset, .unset] [])) _
            refine XS.lload X0.here hx rfl (hb hby at_18) rfl ?_
            show Steps p.tables e below (s₁.setTop (mkF m 20 #[.val (.long q1), .second, .val (.int p2), .val (.int p3), .val (.long (q1 &&& (9223372036854775807 : Int64))), .second, .val (.int (p2 &&& (3 : Int32))), .unset, .unset, .unset, .unset, .unset, .unset, .unset, .unset] [(.long (q1 &&& (9223372036854775807 : Int64)))])) _
            refine X0.ldc2J hx (v := (8191 : Int64)) hown (mvT hZ (hw _ (List.mem_of_getElem? (i := 15) rfl))) (g := (mkF m 20 #[.val (.long q1), .second, .val (.int p2), .val (.int p3), .val (.long (q1 &&& (9223372036854775807 : Int64))), .second, .val (.int (p2 &&& (3 : Int32))), .unset, .unset, .unset, .unset, .unset, .unset, .unset, .unset] [(.long (q1 &&& (9223372036854775807 : Int64)))])) rfl (hb hby at_20) ?_
            show Steps p.tables e below (s₁.setTop (mkF m 23 #[.val (.long q1), .second, .val (.int p2), .val (.int p3), .val (.long (q1 &&& (9223372036854775807 : Int64))), .second, .val (.int (p2 &&& (3 : Int32))), .unset, .unset, .unset, .unset, .unset, .unset, .unset, .unset] [(.long (8191 : Int64)), (.long (q1 &&& (9223372036854775807 : Int64)))])) _
            refine XS.land X0.here hx rfl (hb hby at_23) rfl ?_
            show Steps p.tables e below (s₁.setTop (mkF m 24 #[.val (.long q1), .second, .val (.int p2), .val (.int p3), .val (.long (q1 &&& (9223372036854775807 : Int64))), .second, .val (.int (p2 &&& (3 : Int32))), .unset, .unset, .unset, .unset, .unset, .unset, .unset, .unset] [(.long ((q1 &&& (9223372036854775807 : Int64)) &&& (8191 : Int64)))])) _
            refine XS.lstore X0.here hx rfl (hb hby at_24) rfl (l' := #[.val (.long q1), .second, .val (.int p2), .val (.int p3), .val (.long (q1 &&& (9223372036854775807 : Int64))), .second, .val (.int (p2 &&& (3 : Int32))), .val (.long ((q1 &&& (9223372036854775807 : Int64)) &&& (8191 : Int64))), .second, .unset, .unset, .unset, .unset, .unset, .unset]) rfl ?_
            show Steps p.tables e below (s₁.setTop (mkF m 26 #[.val (.long q1), .second, .val (.int p2), .val (.int p3), .val (.long (q1 &&& (9223372036854775807 : Int64))), .second, .val (.int (p2 &&& (3 : Int32))), .val (.long ((q1 &&& (9223372036854775807 : Int64)) &&& (8191 : Int64))), .second, .unset, .unset, .unset, .unset, .unset, .unset] [])) _
            refine XS.goto X0.here hx rfl (pc0 := 26) (pc' := 52) rfl (hb hby at_26) (by decide) (by decide) ?_
            exact kt
          · by_cases h2 : (p2 &&& (3 : Int32)) = (2 : Int32)
            · rw [h_bs, if_neg h1, if_pos h2] at kt
              show Steps p.tables e below (s₁.setTop (mkF m 15 #[.val (.long q1), .second, .val (.int p2), .val (.int p3), .val (.long (q1 &&& (9223372036854775807 : Int64))), .second, .val (.int (p2 &&& (3 : Int32))), .unset, .unset, .unset, .unset, .unset, .unset, .unset, .unset] [(.int (1 : Int32)), (.int (p2 &&& (3 : Int32)))])) _
              refine XS.icmpYes X0.here hx rfl (pc0 := 15) (pc' := 29) rfl (hb hby at_15) rfl (feq h1).2 (by decide) (by decide) ?_
              show Steps p.tables e below (s₁.setTop (mkF m 29 #[.val (.long q1), .second, .val (.int p2), .val (.int p3), .val (.long (q1 &&& (9223372036854775807 : Int64))), .second, .val (.int (p2 &&& (3 : Int32))), .unset, .unset, .unset, .unset, .unset, .unset, .unset, .unset] [])) _
              refine XS.iload X0.here hx rfl (hb hby at_29) rfl ?_
              show Steps p.tables e below (s₁.setTop (mkF m 31 #[.val (.long q1), .second, .val (.int p2), .val (.int p3), .val (.long (q1 &&& (9223372036854775807 : Int64))), .second, .val (.int (p2 &&& (3 : Int32))), .unset, .unset, .unset, .unset, .unset, .unset, .unset, .unset] [(.int (p2 &&& (3 : Int32)))])) _
              refine XS.iconst X0.here hx rfl (hb hby at_31) ?_
              show Steps p.tables e below (s₁.setTop (mkF m 32 #[.val (.long q1), .second, .val (.int p2), .val (.int p3), .val (.long (q1 &&& (9223372036854775807 : Int64))), .second, .val (.int (p2 &&& (3 : Int32))), .unset, .unset, .unset, .unset, .unset, .unset, .unset, .unset] [(.int (2 : Int32)), (.int (p2 &&& (3 : Int32)))])) _
              refine XS.icmpNo X0.here hx rfl (hb hby at_32) rfl (teq h2).2 ?_
              show Steps p.tables e below (s₁.setTop (mkF m 35 #[.val (.long q1), .second, .val (.int p2), .val (.int p3), .val (.long (q1 &&& (9223372036854775807 : Int64))), .second, .val (.int (p2 &&& (3 : Int32))), .unset, .unset, .unset, .unset, .unset, .unset, .unset, .unset] [])) _
              refine X0.ldc2J hx (v := (4095 : Int64)) hown (mvT hZ (hw _ (List.mem_of_getElem? (i := 1) rfl))) (g := (mkF m 35 #[.val (.long q1), .second, .val (.int p2), .val (.int p3), .val (.long (q1 &&& (9223372036854775807 : Int64))), .second, .val (.int (p2 &&& (3 : Int32))), .unset, .unset, .unset, .unset, .unset, .unset, .unset, .unset] [])) rfl (hb hby at_35) ?_
              show Steps p.tables e below (s₁.setTop (mkF m 38 #[.val (.long q1), .second, .val (.int p2), .val (.int p3), .val (.long (q1 &&& (9223372036854775807 : Int64))), .second, .val (.int (p2 &&& (3 : Int32))), .unset, .unset, .unset, .unset, .unset, .unset, .unset, .unset] [(.long (4095 : Int64))])) _
              refine XS.lload X0.here hx rfl (hb hby at_38) rfl ?_
              show Steps p.tables e below (s₁.setTop (mkF m 40 #[.val (.long q1), .second, .val (.int p2), .val (.int p3), .val (.long (q1 &&& (9223372036854775807 : Int64))), .second, .val (.int (p2 &&& (3 : Int32))), .unset, .unset, .unset, .unset, .unset, .unset, .unset, .unset] [(.long (q1 &&& (9223372036854775807 : Int64))), (.long (4095 : Int64))])) _
              refine XS.lconst X0.here hx rfl (hb hby at_40) ?_
              show Steps p.tables e below (s₁.setTop (mkF m 41 #[.val (.long q1), .second, .val (.int p2), .val (.int p3), .val (.long (q1 &&& (9223372036854775807 : Int64))), .second, .val (.int (p2 &&& (3 : Int32))), .unset, .unset, .unset, .unset, .unset, .unset, .unset, .unset] [(.long (1 : Int64)), (.long (q1 &&& (9223372036854775807 : Int64))), (.long (4095 : Int64))])) _
              refine XS.land X0.here hx rfl (hb hby at_41) rfl ?_
              show Steps p.tables e below (s₁.setTop (mkF m 42 #[.val (.long q1), .second, .val (.int p2), .val (.int p3), .val (.long (q1 &&& (9223372036854775807 : Int64))), .second, .val (.int (p2 &&& (3 : Int32))), .unset, .unset, .unset, .unset, .unset, .unset, .unset, .unset] [(.long ((q1 &&& (9223372036854775807 : Int64)) &&& (1 : Int64))), (.long (4095 : Int64))])) _
              refine XS.ladd X0.here hx rfl (hb hby at_42) rfl ?_
              show Steps p.tables e below (s₁.setTop (mkF m 43 #[.val (.long q1), .second, .val (.int p2), .val (.int p3), .val (.long (q1 &&& (9223372036854775807 : Int64))), .second, .val (.int (p2 &&& (3 : Int32))), .unset, .unset, .unset, .unset, .unset, .unset, .unset, .unset] [(.long ((4095 : Int64) + ((q1 &&& (9223372036854775807 : Int64)) &&& (1 : Int64))))])) _
              refine XS.lstore X0.here hx rfl (hb hby at_43) rfl (l' := #[.val (.long q1), .second, .val (.int p2), .val (.int p3), .val (.long (q1 &&& (9223372036854775807 : Int64))), .second, .val (.int (p2 &&& (3 : Int32))), .val (.long ((4095 : Int64) + ((q1 &&& (9223372036854775807 : Int64)) &&& (1 : Int64)))), .second, .unset, .unset, .unset, .unset, .unset, .unset]) rfl ?_
              show Steps p.tables e below (s₁.setTop (mkF m 45 #[.val (.long q1), .second, .val (.int p2), .val (.int p3), .val (.long (q1 &&& (9223372036854775807 : Int64))), .second, .val (.int (p2 &&& (3 : Int32))), .val (.long ((4095 : Int64) + ((q1 &&& (9223372036854775807 : Int64)) &&& (1 : Int64)))), .second, .unset, .unset, .unset, .unset, .unset, .unset] [])) _
              refine XS.goto X0.here hx rfl (pc0 := 45) (pc' := 52) rfl (hb hby at_45) (by decide) (by decide) ?_
              exact kt
            · rw [h_bs, if_neg h1, if_neg h2] at kt
              show Steps p.tables e below (s₁.setTop (mkF m 15 #[.val (.long q1), .second, .val (.int p2), .val (.int p3), .val (.long (q1 &&& (9223372036854775807 : Int64))), .second, .val (.int (p2 &&& (3 : Int32))), .unset, .unset, .unset, .unset, .unset, .unset, .unset, .unset] [(.int (1 : Int32)), (.int (p2 &&& (3 : Int32)))])) _
              refine XS.icmpYes X0.here hx rfl (pc0 := 15) (pc' := 29) rfl (hb hby at_15) rfl (feq h1).2 (by decide) (by decide) ?_
              show Steps p.tables e below (s₁.setTop (mkF m 29 #[.val (.long q1), .second, .val (.int p2), .val (.int p3), .val (.long (q1 &&& (9223372036854775807 : Int64))), .second, .val (.int (p2 &&& (3 : Int32))), .unset, .unset, .unset, .unset, .unset, .unset, .unset, .unset] [])) _
              refine XS.iload X0.here hx rfl (hb hby at_29) rfl ?_
              show Steps p.tables e below (s₁.setTop (mkF m 31 #[.val (.long q1), .second, .val (.int p2), .val (.int p3), .val (.long (q1 &&& (9223372036854775807 : Int64))), .second, .val (.int (p2 &&& (3 : Int32))), .unset, .unset, .unset, .unset, .unset, .unset, .unset, .unset] [(.int (p2 &&& (3 : Int32)))])) _
              refine XS.iconst X0.here hx rfl (hb hby at_31) ?_
              show Steps p.tables e below (s₁.setTop (mkF m 32 #[.val (.long q1), .second, .val (.int p2), .val (.int p3), .val (.long (q1 &&& (9223372036854775807 : Int64))), .second, .val (.int (p2 &&& (3 : Int32))), .unset, .unset, .unset, .unset, .unset, .unset, .unset, .unset] [(.int (2 : Int32)), (.int (p2 &&& (3 : Int32)))])) _
              refine XS.icmpYes X0.here hx rfl (pc0 := 32) (pc' := 48) rfl (hb hby at_32) rfl (feq h2).2 (by decide) (by decide) ?_
              show Steps p.tables e below (s₁.setTop (mkF m 48 #[.val (.long q1), .second, .val (.int p2), .val (.int p3), .val (.long (q1 &&& (9223372036854775807 : Int64))), .second, .val (.int (p2 &&& (3 : Int32))), .unset, .unset, .unset, .unset, .unset, .unset, .unset, .unset] [])) _
              refine XS.lload X0.here hx rfl (hb hby at_48) rfl ?_
              show Steps p.tables e below (s₁.setTop (mkF m 50 #[.val (.long q1), .second, .val (.int p2), .val (.int p3), .val (.long (q1 &&& (9223372036854775807 : Int64))), .second, .val (.int (p2 &&& (3 : Int32))), .unset, .unset, .unset, .unset, .unset, .unset, .unset, .unset] [(.long (q1 &&& (9223372036854775807 : Int64)))])) _
              refine XS.lstore X0.here hx rfl (hb hby at_50) rfl (l' := #[.val (.long q1), .second, .val (.int p2), .val (.int p3), .val (.long (q1 &&& (9223372036854775807 : Int64))), .second, .val (.int (p2 &&& (3 : Int32))), .val (.long (q1 &&& (9223372036854775807 : Int64))), .second, .unset, .unset, .unset, .unset, .unset, .unset]) rfl ?_
              exact kt
        show Steps p.tables e below (s₁.setTop (mkF m 52 #[.val (.long q1), .second, .val (.int p2), .val (.int p3), .val (.long (q1 &&& (9223372036854775807 : Int64))), .second, .val (.int (p2 &&& (3 : Int32))), .val (.long bs), .second, .unset, .unset, .unset, .unset, .unset, .unset] [])) _
        refine XS.iloadN X0.here hx rfl (hb hby at_52) rfl ?_
        show Steps p.tables e below (s₁.setTop (mkF m 53 #[.val (.long q1), .second, .val (.int p2), .val (.int p3), .val (.long (q1 &&& (9223372036854775807 : Int64))), .second, .val (.int (p2 &&& (3 : Int32))), .val (.long bs), .second, .unset, .unset, .unset, .unset, .unset, .unset] [(.int p3)])) _
        refine X0.ldcI hx (v := (2147483647 : Int32)) hown (mvT hZ (hw _ (List.mem_of_getElem? (i := 2) rfl))) (g := (mkF m 53 #[.val (.long q1), .second, .val (.int p2), .val (.int p3), .val (.long (q1 &&& (9223372036854775807 : Int64))), .second, .val (.int (p2 &&& (3 : Int32))), .val (.long bs), .second, .unset, .unset, .unset, .unset, .unset, .unset] [(.int p3)])) rfl (hb hby at_53) ?_
        show Steps p.tables e below (s₁.setTop (mkF m 55 #[.val (.long q1), .second, .val (.int p2), .val (.int p3), .val (.long (q1 &&& (9223372036854775807 : Int64))), .second, .val (.int (p2 &&& (3 : Int32))), .val (.long bs), .second, .unset, .unset, .unset, .unset, .unset, .unset] [(.int (2147483647 : Int32)), (.int p3)])) _
        refine XS.iand X0.here hx rfl (hb hby at_55) rfl ?_
        show Steps p.tables e below (s₁.setTop (mkF m 56 #[.val (.long q1), .second, .val (.int p2), .val (.int p3), .val (.long (q1 &&& (9223372036854775807 : Int64))), .second, .val (.int (p2 &&& (3 : Int32))), .val (.long bs), .second, .unset, .unset, .unset, .unset, .unset, .unset] [(.int (p3 &&& (2147483647 : Int32)))])) _
        refine XS.bipush X0.here hx rfl (hb hby at_56) ?_
        show Steps p.tables e below (s₁.setTop (mkF m 58 #[.val (.long q1), .second, .val (.int p2), .val (.int p3), .val (.long (q1 &&& (9223372036854775807 : Int64))), .second, .val (.int (p2 &&& (3 : Int32))), .val (.long bs), .second, .unset, .unset, .unset, .unset, .unset, .unset] [(.int (63 : Int32)), (.int (p3 &&& (2147483647 : Int32)))])) _
        refine iremM X0 hx rfl (hb hby at_58) rfl (by decide) ?_
        show Steps p.tables e below (s₁.setTop (mkF m 59 #[.val (.long q1), .second, .val (.int p2), .val (.int p3), .val (.long (q1 &&& (9223372036854775807 : Int64))), .second, .val (.int (p2 &&& (3 : Int32))), .val (.long bs), .second, .unset, .unset, .unset, .unset, .unset, .unset] [(.int ((p3 &&& (2147483647 : Int32)) % (63 : Int32)))])) _
        refine XS.istore X0.here hx rfl (hb hby at_59) rfl (l' := #[.val (.long q1), .second, .val (.int p2), .val (.int p3), .val (.long (q1 &&& (9223372036854775807 : Int64))), .second, .val (.int (p2 &&& (3 : Int32))), .val (.long bs), .second, .val (.int ((p3 &&& (2147483647 : Int32)) % (63 : Int32))), .unset, .unset, .unset, .unset, .unset]) rfl ?_
        show Steps p.tables e below (s₁.setTop (mkF m 61 #[.val (.long q1), .second, .val (.int p2), .val (.int p3), .val (.long (q1 &&& (9223372036854775807 : Int64))), .second, .val (.int (p2 &&& (3 : Int32))), .val (.long bs), .second, .val (.int ((p3 &&& (2147483647 : Int32)) % (63 : Int32))), .unset, .unset, .unset, .unset, .unset] [])) _
        refine XS.lconst X0.here hx rfl (hb hby at_61) ?_
        show Steps p.tables e below (s₁.setTop (mkF m 62 #[.val (.long q1), .second, .val (.int p2), .val (.int p3), .val (.long (q1 &&& (9223372036854775807 : Int64))), .second, .val (.int (p2 &&& (3 : Int32))), .val (.long bs), .second, .val (.int ((p3 &&& (2147483647 : Int32)) % (63 : Int32))), .unset, .unset, .unset, .unset, .unset] [(.long (1 : Int64))])) _
        refine XS.iload X0.here hx rfl (hb hby at_62) rfl ?_
        show Steps p.tables e below (s₁.setTop (mkF m 64 #[.val (.long q1), .second, .val (.int p2), .val (.int p3), .val (.long (q1 &&& (9223372036854775807 : Int64))), .second, .val (.int (p2 &&& (3 : Int32))), .val (.long bs), .second, .val (.int ((p3 &&& (2147483647 : Int32)) % (63 : Int32))), .unset, .unset, .unset, .unset, .unset] [(.int ((p3 &&& (2147483647 : Int32)) % (63 : Int32))), (.long (1 : Int64))])) _
        refine XS.lshl X0.here hx rfl (hb hby at_64) rfl ?_
        show Steps p.tables e below (s₁.setTop (mkF m 65 #[.val (.long q1), .second, .val (.int p2), .val (.int p3), .val (.long (q1 &&& (9223372036854775807 : Int64))), .second, .val (.int (p2 &&& (3 : Int32))), .val (.long bs), .second, .val (.int ((p3 &&& (2147483647 : Int32)) % (63 : Int32))), .unset, .unset, .unset, .unset, .unset] [(.long ((1 : Int64) <<< (((p3 &&& (2147483647 : Int32)) % (63 : Int32)) &&& 0x3f).toInt64))])) _
        refine XS.lstore X0.here hx rfl (hb hby at_65) rfl (l' := #[.val (.long q1), .second, .val (.int p2), .val (.int p3), .val (.long (q1 &&& (9223372036854775807 : Int64))), .second, .val (.int (p2 &&& (3 : Int32))), .val (.long bs), .second, .val (.int ((p3 &&& (2147483647 : Int32)) % (63 : Int32))), .val (.long ((1 : Int64) <<< (((p3 &&& (2147483647 : Int32)) % (63 : Int32)) &&& 0x3f).toInt64)), .second, .unset, .unset, .unset]) rfl ?_
        show Steps p.tables e below (s₁.setTop (mkF m 67 #[.val (.long q1), .second, .val (.int p2), .val (.int p3), .val (.long (q1 &&& (9223372036854775807 : Int64))), .second, .val (.int (p2 &&& (3 : Int32))), .val (.long bs), .second, .val (.int ((p3 &&& (2147483647 : Int32)) % (63 : Int32))), .val (.long ((1 : Int64) <<< (((p3 &&& (2147483647 : Int32)) % (63 : Int32)) &&& 0x3f).toInt64)), .second, .unset, .unset, .unset] [])) _
        rw [h_al2]
        show Steps p.tables e below (s₁.setTop (mkF m 67 #[.val (.long q1), .second, .val (.int p2), .val (.int p3), .val (.long (q1 &&& (9223372036854775807 : Int64))), .second, .val (.int (p2 &&& (3 : Int32))), .val (.long bs), .second, .val (.int ((p3 &&& (2147483647 : Int32)) % (63 : Int32))), .val (.long al), .second, .unset, .unset, .unset] [])) _
        refine XS.lload X0.here hx rfl (hb hby at_67) rfl ?_
        show Steps p.tables e below (s₁.setTop (mkF m 69 #[.val (.long q1), .second, .val (.int p2), .val (.int p3), .val (.long (q1 &&& (9223372036854775807 : Int64))), .second, .val (.int (p2 &&& (3 : Int32))), .val (.long bs), .second, .val (.int ((p3 &&& (2147483647 : Int32)) % (63 : Int32))), .val (.long al), .second, .unset, .unset, .unset] [(.long bs)])) _
        refine XS.lload X0.here hx rfl (hb hby at_69) rfl ?_
        show Steps p.tables e below (s₁.setTop (mkF m 71 #[.val (.long q1), .second, .val (.int p2), .val (.int p3), .val (.long (q1 &&& (9223372036854775807 : Int64))), .second, .val (.int (p2 &&& (3 : Int32))), .val (.long bs), .second, .val (.int ((p3 &&& (2147483647 : Int32)) % (63 : Int32))), .val (.long al), .second, .unset, .unset, .unset] [(.long al), (.long bs)])) _
        refine st1 _ ?_
        show Steps p.tables e below (T1.setTop (mkF m 74 #[.val (.long q1), .second, .val (.int p2), .val (.int p3), .val (.long (q1 &&& (9223372036854775807 : Int64))), .second, .val (.int (p2 &&& (3 : Int32))), .val (.long bs), .second, .val (.int ((p3 &&& (2147483647 : Int32)) % (63 : Int32))), .val (.long al), .second, .unset, .unset, .unset] [(.long (own_sa bs al))])) _
        rw [h_r2]
        show Steps p.tables e below (T1.setTop (mkF m 74 #[.val (.long q1), .second, .val (.int p2), .val (.int p3), .val (.long (q1 &&& (9223372036854775807 : Int64))), .second, .val (.int (p2 &&& (3 : Int32))), .val (.long bs), .second, .val (.int ((p3 &&& (2147483647 : Int32)) % (63 : Int32))), .val (.long al), .second, .unset, .unset, .unset] [(.long r)])) _
        refine XS.lstore X1.here hx rfl (hb hby at_74) rfl (l' := #[.val (.long q1), .second, .val (.int p2), .val (.int p3), .val (.long (q1 &&& (9223372036854775807 : Int64))), .second, .val (.int (p2 &&& (3 : Int32))), .val (.long bs), .second, .val (.int ((p3 &&& (2147483647 : Int32)) % (63 : Int32))), .val (.long al), .second, .val (.long r), .second, .unset]) rfl ?_
        show Steps p.tables e below (T1.setTop (mkF m 76 #[.val (.long q1), .second, .val (.int p2), .val (.int p3), .val (.long (q1 &&& (9223372036854775807 : Int64))), .second, .val (.int (p2 &&& (3 : Int32))), .val (.long bs), .second, .val (.int ((p3 &&& (2147483647 : Int32)) % (63 : Int32))), .val (.long al), .second, .val (.long r), .second, .unset] [])) _
        refine XS.lload X1.here hx rfl (hb hby at_76) rfl ?_
        show Steps p.tables e below (T1.setTop (mkF m 78 #[.val (.long q1), .second, .val (.int p2), .val (.int p3), .val (.long (q1 &&& (9223372036854775807 : Int64))), .second, .val (.int (p2 &&& (3 : Int32))), .val (.long bs), .second, .val (.int ((p3 &&& (2147483647 : Int32)) % (63 : Int32))), .val (.long al), .second, .val (.long r), .second, .unset] [(.long r)])) _
        refine XS.lconst X1.here hx rfl (hb hby at_78) ?_
        show Steps p.tables e below (T1.setTop (mkF m 79 #[.val (.long q1), .second, .val (.int p2), .val (.int p3), .val (.long (q1 &&& (9223372036854775807 : Int64))), .second, .val (.int (p2 &&& (3 : Int32))), .val (.long bs), .second, .val (.int ((p3 &&& (2147483647 : Int32)) % (63 : Int32))), .val (.long al), .second, .val (.long r), .second, .unset] [(.long (0 : Int64)), (.long r)])) _
        refine XS.lcmp X1.here hx rfl (hb hby at_79) rfl ?_
        show Steps p.tables e below (T1.setTop (mkF m 80 #[.val (.long q1), .second, .val (.int p2), .val (.int p3), .val (.long (q1 &&& (9223372036854775807 : Int64))), .second, .val (.int (p2 &&& (3 : Int32))), .val (.long bs), .second, .val (.int ((p3 &&& (2147483647 : Int32)) % (63 : Int32))), .val (.long al), .second, .val (.long r), .second, .unset] [(.int (lcmpW r (0 : Int64)))])) _
        refine XS.ifNo X1.here hx rfl (hb hby at_80) rfl (Jvm.Free.XT.ll_le_f f2.1.1) ?_
        show Steps p.tables e below (T1.setTop (mkF m 83 #[.val (.long q1), .second, .val (.int p2), .val (.int p3), .val (.long (q1 &&& (9223372036854775807 : Int64))), .second, .val (.int (p2 &&& (3 : Int32))), .val (.long bs), .second, .val (.int ((p3 &&& (2147483647 : Int32)) % (63 : Int32))), .val (.long al), .second, .val (.long r), .second, .unset] [])) _
        refine XS.lload X1.here hx rfl (hb hby at_83) rfl ?_
        show Steps p.tables e below (T1.setTop (mkF m 85 #[.val (.long q1), .second, .val (.int p2), .val (.int p3), .val (.long (q1 &&& (9223372036854775807 : Int64))), .second, .val (.int (p2 &&& (3 : Int32))), .val (.long bs), .second, .val (.int ((p3 &&& (2147483647 : Int32)) % (63 : Int32))), .val (.long al), .second, .val (.long r), .second, .unset] [(.long r)])) _
        refine XS.lload X1.here hx rfl (hb hby at_85) rfl ?_
        show Steps p.tables e below (T1.setTop (mkF m 87 #[.val (.long q1), .second, .val (.int p2), .val (.int p3), .val (.long (q1 &&& (9223372036854775807 : Int64))), .second, .val (.int (p2 &&& (3 : Int32))), .val (.long bs), .second, .val (.int ((p3 &&& (2147483647 : Int32)) % (63 : Int32))), .val (.long al), .second, .val (.long r), .second, .unset] [(.long r), (.long r)])) _
        refine XS.lconst X1.here hx rfl (hb hby at_87) ?_
        show Steps p.tables e below (T1.setTop (mkF m 88 #[.val (.long q1), .second, .val (.int p2), .val (.int p3), .val (.long (q1 &&& (9223372036854775807 : Int64))), .second, .val (.int (p2 &&& (3 : Int32))), .val (.long bs), .second, .val (.int ((p3 &&& (2147483647 : Int32)) % (63 : Int32))), .val (.long al), .second, .val (.long r), .second, .unset] [(.long (1 : Int64)), (.long r), (.long r)])) _
        refine XS.lsub X1.here hx rfl (hb hby at_88) rfl ?_
        show Steps p.tables e below (T1.setTop (mkF m 89 #[.val (.long q1), .second, .val (.int p2), .val (.int p3), .val (.long (q1 &&& (9223372036854775807 : Int64))), .second, .val (.int (p2 &&& (3 : Int32))), .val (.long bs), .second, .val (.int ((p3 &&& (2147483647 : Int32)) % (63 : Int32))), .val (.long al), .second, .val (.long r), .second, .unset] [(.long (r - (1 : Int64))), (.long r)])) _
        refine XS.land X1.here hx rfl (hb hby at_89) rfl ?_
        show Steps p.tables e below (T1.setTop (mkF m 90 #[.val (.long q1), .second, .val (.int p2), .val (.int p3), .val (.long (q1 &&& (9223372036854775807 : Int64))), .second, .val (.int (p2 &&& (3 : Int32))), .val (.long bs), .second, .val (.int ((p3 &&& (2147483647 : Int32)) % (63 : Int32))), .val (.long al), .second, .val (.long r), .second, .unset] [(.long (r &&& (r - (1 : Int64))))])) _
        refine XS.lconst X1.here hx rfl (hb hby at_90) ?_
        show Steps p.tables e below (T1.setTop (mkF m 91 #[.val (.long q1), .second, .val (.int p2), .val (.int p3), .val (.long (q1 &&& (9223372036854775807 : Int64))), .second, .val (.int (p2 &&& (3 : Int32))), .val (.long bs), .second, .val (.int ((p3 &&& (2147483647 : Int32)) % (63 : Int32))), .val (.long al), .second, .val (.long r), .second, .unset] [(.long (0 : Int64)), (.long (r &&& (r - (1 : Int64))))])) _
        refine XS.lcmp X1.here hx rfl (hb hby at_91) rfl ?_
        show Steps p.tables e below (T1.setTop (mkF m 92 #[.val (.long q1), .second, .val (.int p2), .val (.int p3), .val (.long (q1 &&& (9223372036854775807 : Int64))), .second, .val (.int (p2 &&& (3 : Int32))), .val (.long bs), .second, .val (.int ((p3 &&& (2147483647 : Int32)) % (63 : Int32))), .val (.long al), .second, .val (.long r), .second, .unset] [(.int (lcmpW (r &&& (r - (1 : Int64))) (0 : Int64)))])) _
        refine XS.ifNo X1.here hx rfl (hb hby at_92) rfl (Jvm.Free.XT.ll_ne_f f2.1.2) ?_
        show Steps p.tables e below (T1.setTop (mkF m 95 #[.val (.long q1), .second, .val (.int p2), .val (.int p3), .val (.long (q1 &&& (9223372036854775807 : Int64))), .second, .val (.int (p2 &&& (3 : Int32))), .val (.long bs), .second, .val (.int ((p3 &&& (2147483647 : Int32)) % (63 : Int32))), .val (.long al), .second, .val (.long r), .second, .unset] [])) _
        refine XS.iconst X1.here hx rfl (hb hby at_95) ?_
        show Steps p.tables e below (T1.setTop (mkF m 96 #[.val (.long q1), .second, .val (.int p2), .val (.int p3), .val (.long (q1 &&& (9223372036854775807 : Int64))), .second, .val (.int (p2 &&& (3 : Int32))), .val (.long bs), .second, .val (.int ((p3 &&& (2147483647 : Int32)) % (63 : Int32))), .val (.long al), .second, .val (.long r), .second, .unset] [(.int (1 : Int32))])) _
        refine XS.goto X1.here hx rfl (pc0 := 96) (pc' := 100) rfl (hb hby at_96) (by decide) (by decide) ?_
        show Steps p.tables e below (T1.setTop (mkF m 100 #[.val (.long q1), .second, .val (.int p2), .val (.int p3), .val (.long (q1 &&& (9223372036854775807 : Int64))), .second, .val (.int (p2 &&& (3 : Int32))), .val (.long bs), .second, .val (.int ((p3 &&& (2147483647 : Int32)) % (63 : Int32))), .val (.long al), .second, .val (.long r), .second, .unset] [(.int (1 : Int32))])) _
        refine XS.istore X1.here hx rfl (hb hby at_100) rfl (l' := #[.val (.long q1), .second, .val (.int p2), .val (.int p3), .val (.long (q1 &&& (9223372036854775807 : Int64))), .second, .val (.int (p2 &&& (3 : Int32))), .val (.long bs), .second, .val (.int ((p3 &&& (2147483647 : Int32)) % (63 : Int32))), .val (.long al), .second, .val (.long r), .second, .val (.int (1 : Int32))]) rfl ?_
        show Steps p.tables e below (T1.setTop (mkF m 102 #[.val (.long q1), .second, .val (.int p2), .val (.int p3), .val (.long (q1 &&& (9223372036854775807 : Int64))), .second, .val (.int (p2 &&& (3 : Int32))), .val (.long bs), .second, .val (.int ((p3 &&& (2147483647 : Int32)) % (63 : Int32))), .val (.long al), .second, .val (.long r), .second, .val (.int (1 : Int32))] [])) _
        refine XS.iload X1.here hx rfl (hb hby at_102) rfl ?_
        show Steps p.tables e below (T1.setTop (mkF m 104 #[.val (.long q1), .second, .val (.int p2), .val (.int p3), .val (.long (q1 &&& (9223372036854775807 : Int64))), .second, .val (.int (p2 &&& (3 : Int32))), .val (.long bs), .second, .val (.int ((p3 &&& (2147483647 : Int32)) % (63 : Int32))), .val (.long al), .second, .val (.long r), .second, .val (.int (1 : Int32))] [(.int (1 : Int32))])) _
        refine XS.ifYes X1.here hx rfl (pc0 := 104) (pc' := 109) rfl (hb hby at_104) rfl ((if0 _ _).trans (feq (by decide)).2) (by decide) (by decide) ?_
        show Steps p.tables e below (T1.setTop (mkF m 109 #[.val (.long q1), .second, .val (.int p2), .val (.int p3), .val (.long (q1 &&& (9223372036854775807 : Int64))), .second, .val (.int (p2 &&& (3 : Int32))), .val (.long bs), .second, .val (.int ((p3 &&& (2147483647 : Int32)) % (63 : Int32))), .val (.long al), .second, .val (.long r), .second, .val (.int (1 : Int32))] [])) _
        refine XS.lload X1.here hx rfl (hb hby at_109) rfl ?_
        show Steps p.tables e below (T1.setTop (mkF m 111 #[.val (.long q1), .second, .val (.int p2), .val (.int p3), .val (.long (q1 &&& (9223372036854775807 : Int64))), .second, .val (.int (p2 &&& (3 : Int32))), .val (.long bs), .second, .val (.int ((p3 &&& (2147483647 : Int32)) % (63 : Int32))), .val (.long al), .second, .val (.long r), .second, .val (.int (1 : Int32))] [(.long r)])) _
        refine XS.lload X1.here hx rfl (hb hby at_111) rfl ?_
        show Steps p.tables e below (T1.setTop (mkF m 113 #[.val (.long q1), .second, .val (.int p2), .val (.int p3), .val (.long (q1 &&& (9223372036854775807 : Int64))), .second, .val (.int (p2 &&& (3 : Int32))), .val (.long bs), .second, .val (.int ((p3 &&& (2147483647 : Int32)) % (63 : Int32))), .val (.long al), .second, .val (.long r), .second, .val (.int (1 : Int32))] [(.long al), (.long r)])) _
        refine XS.lrem X1.here hx rfl (hb hby at_113) rfl f1 ?_
        show Steps p.tables e below (T1.setTop (mkF m 114 #[.val (.long q1), .second, .val (.int p2), .val (.int p3), .val (.long (q1 &&& (9223372036854775807 : Int64))), .second, .val (.int (p2 &&& (3 : Int32))), .val (.long bs), .second, .val (.int ((p3 &&& (2147483647 : Int32)) % (63 : Int32))), .val (.long al), .second, .val (.long r), .second, .val (.int (1 : Int32))] [(.long (r - (r / al) * al))])) _
        refine XS.lconst X1.here hx rfl (hb hby at_114) ?_
        show Steps p.tables e below (T1.setTop (mkF m 115 #[.val (.long q1), .second, .val (.int p2), .val (.int p3), .val (.long (q1 &&& (9223372036854775807 : Int64))), .second, .val (.int (p2 &&& (3 : Int32))), .val (.long bs), .second, .val (.int ((p3 &&& (2147483647 : Int32)) % (63 : Int32))), .val (.long al), .second, .val (.long r), .second, .val (.int (1 : Int32))] [(.long (0 : Int64)), (.long (r - (r / al) * al))])) _
        refine XS.lcmp X1.here hx rfl (hb hby at_115) rfl ?_
        show Steps p.tables e below (T1.setTop (mkF m 116 #[.val (.long q1), .second, .val (.int p2), .val (.int p3), .val (.long (q1 &&& (9223372036854775807 : Int64))), .second, .val (.int (p2 &&& (3 : Int32))), .val (.long bs), .second, .val (.int ((p3 &&& (2147483647 : Int32)) % (63 : Int32))), .val (.long al), .second, .val (.long r), .second, .val (.int (1 : Int32))] [(.int (lcmpW (r - (r / al) * al) (0 : Int64)))])) _
        refine XS.ifYes X1.here hx rfl (pc0 := 116) (pc' := 121) rfl (hb hby at_116) rfl (Jvm.Free.XT.ll_eq_t f2.2) (by decide) (by decide) ?_
        show Steps p.tables e below (T1.setTop (mkF m 121 #[.val (.long q1), .second, .val (.int p2), .val (.int p3), .val (.long (q1 &&& (9223372036854775807 : Int64))), .second, .val (.int (p2 &&& (3 : Int32))), .val (.long bs), .second, .val (.int ((p3 &&& (2147483647 : Int32)) % (63 : Int32))), .val (.long al), .second, .val (.long r), .second, .val (.int (1 : Int32))] [])) _
        refine XS.lload X1.here hx rfl (hb hby at_121) rfl ?_
        show Steps p.tables e below (T1.setTop (mkF m 123 #[.val (.long q1), .second, .val (.int p2), .val (.int p3), .val (.long (q1 &&& (9223372036854775807 : Int64))), .second, .val (.int (p2 &&& (3 : Int32))), .val (.long bs), .second, .val (.int ((p3 &&& (2147483647 : Int32)) % (63 : Int32))), .val (.long al), .second, .val (.long r), .second, .val (.int (1 : Int32))] [(.long bs)])) _
        refine X1.ldc2J hx (v := (4096 : Int64)) hown (mvT hZ (hw _ (List.mem_of_getElem? (i := 13) rfl))) (g := (mkF m 123 #[.val (.long q1), .second, .val (.int p2), .val (.int p3), .val (.long (q1 &&& (9223372036854775807 : Int64))), .second, .val (.int (p2 &&& (3 : Int32))), .val (.long bs), .second, .val (.int ((p3 &&& (2147483647 : Int32)) % (63 : Int32))), .val (.long al), .second, .val (.long r), .second, .val (.int (1 : Int32))] [(.long bs)])) rfl (hb hby at_123) ?_
        show Steps p.tables e below (T1.setTop (mkF m 126 #[.val (.long q1), .second, .val (.int p2), .val (.int p3), .val (.long (q1 &&& (9223372036854775807 : Int64))), .second, .val (.int (p2 &&& (3 : Int32))), .val (.long bs), .second, .val (.int ((p3 &&& (2147483647 : Int32)) % (63 : Int32))), .val (.long al), .second, .val (.long r), .second, .val (.int (1 : Int32))] [(.long (4096 : Int64)), (.long bs)])) _
        refine XS.lcmp X1.here hx rfl (hb hby at_126) rfl ?_
        show Steps p.tables e below (T1.setTop (mkF m 127 #[.val (.long q1), .second, .val (.int p2), .val (.int p3), .val (.long (q1 &&& (9223372036854775807 : Int64))), .second, .val (.int (p2 &&& (3 : Int32))), .val (.long bs), .second, .val (.int ((p3 &&& (2147483647 : Int32)) % (63 : Int32))), .val (.long al), .second, .val (.long r), .second, .val (.int (1 : Int32))] [(.int (lcmpW bs (4096 : Int64)))])) _
        refine XS.ifYes X1.here hx rfl (pc0 := 127) (pc' := 144) rfl (hb hby at_127) rfl (Jvm.Free.XT.ll_ge_t hbs) (by decide) (by decide) ?_
        show Steps p.tables e below (T1.setTop (mkF m 144 #[.val (.long q1), .second, .val (.int p2), .val (.int p3), .val (.long (q1 &&& (9223372036854775807 : Int64))), .second, .val (.int (p2 &&& (3 : Int32))), .val (.long bs), .second, .val (.int ((p3 &&& (2147483647 : Int32)) % (63 : Int32))), .val (.long al), .second, .val (.long r), .second, .val (.int (1 : Int32))] [])) _
        refine XS.lload X1.here hx rfl (hb hby at_144) rfl ?_
        show Steps p.tables e below (T1.setTop (mkF m 146 #[.val (.long q1), .second, .val (.int p2), .val (.int p3), .val (.long (q1 &&& (9223372036854775807 : Int64))), .second, .val (.int (p2 &&& (3 : Int32))), .val (.long bs), .second, .val (.int ((p3 &&& (2147483647 : Int32)) % (63 : Int32))), .val (.long al), .second, .val (.long r), .second, .val (.int (1 : Int32))] [(.long r)])) _
        refine X1.ldc2J hx (v := (64 : Int64)) hown (mvT hZ (hw _ (List.mem_of_getElem? (i := 14) rfl))) (g := (mkF m 146 #[.val (.long q1), .second, .val (.int p2), .val (.int p3), .val (.long (q1 &&& (9223372036854775807 : Int64))), .second, .val (.int (p2 &&& (3 : Int32))), .val (.long bs), .second, .val (.int ((p3 &&& (2147483647 : Int32)) % (63 : Int32))), .val (.long al), .second, .val (.long r), .second, .val (.int (1 : Int32))] [(.long r)])) rfl (hb hby at_146) ?_
        show Steps p.tables e below (T1.setTop (mkF m 149 #[.val (.long q1), .second, .val (.int p2), .val (.int p3), .val (.long (q1 &&& (9223372036854775807 : Int64))), .second, .val (.int (p2 &&& (3 : Int32))), .val (.long bs), .second, .val (.int ((p3 &&& (2147483647 : Int32)) % (63 : Int32))), .val (.long al), .second, .val (.long r), .second, .val (.int (1 : Int32))] [(.long (64 : Int64)), (.long r)])) _
        refine XS.lrem X1.here hx rfl (hb hby at_149) rfl (by decide) ?_
        show Steps p.tables e below (T1.setTop (mkF m 150 #[.val (.long q1), .second, .val (.int p2), .val (.int p3), .val (.long (q1 &&& (9223372036854775807 : Int64))), .second, .val (.int (p2 &&& (3 : Int32))), .val (.long bs), .second, .val (.int ((p3 &&& (2147483647 : Int32)) % (63 : Int32))), .val (.long al), .second, .val (.long r), .second, .val (.int (1 : Int32))] [(.long (r - (r / (64 : Int64)) * (64 : Int64)))])) _
        refine XS.lconst X1.here hx rfl (hb hby at_150) ?_
        show Steps p.tables e below (T1.setTop (mkF m 151 #[.val (.long q1), .second, .val (.int p2), .val (.int p3), .val (.long (q1 &&& (9223372036854775807 : Int64))), .second, .val (.int (p2 &&& (3 : Int32))), .val (.long bs), .second, .val (.int ((p3 &&& (2147483647 : Int32)) % (63 : Int32))), .val (.long al), .second, .val (.long r), .second, .val (.int (1 : Int32))] [(.long (0 : Int64)), (.long (r - (r / (64 : Int64)) * (64 : Int64)))])) _
        refine XS.lcmp X1.here hx rfl (hb hby at_151) rfl ?_
        show Steps p.tables e below (T1.setTop (mkF m 152 #[.val (.long q1), .second, .val (.int p2), .val (.int p3), .val (.long (q1 &&& (9223372036854775807 : Int64))), .second, .val (.int (p2 &&& (3 : Int32))), .val (.long bs), .second, .val (.int ((p3 &&& (2147483647 : Int32)) % (63 : Int32))), .val (.long al), .second, .val (.long r), .second, .val (.int (1 : Int32))] [(.int (lcmpW (r - (r / (64 : Int64)) * (64 : Int64)) (0 : Int64)))])) _
        refine XS.ifNo X1.here hx rfl (hb hby at_152) rfl (Jvm.Free.XT.ll_ne_f (f4 hbs).1) ?_
        show Steps p.tables e below (T1.setTop (mkF m 155 #[.val (.long q1), .second, .val (.int p2), .val (.int p3), .val (.long (q1 &&& (9223372036854775807 : Int64))), .second, .val (.int (p2 &&& (3 : Int32))), .val (.long bs), .second, .val (.int ((p3 &&& (2147483647 : Int32)) % (63 : Int32))), .val (.long al), .second, .val (.long r), .second, .val (.int (1 : Int32))] [])) _
        refine XS.lload X1.here hx rfl (hb hby at_155) rfl ?_
        show Steps p.tables e below (T1.setTop (mkF m 157 #[.val (.long q1), .second, .val (.int p2), .val (.int p3), .val (.long (q1 &&& (9223372036854775807 : Int64))), .second, .val (.int (p2 &&& (3 : Int32))), .val (.long bs), .second, .val (.int ((p3 &&& (2147483647 : Int32)) % (63 : Int32))), .val (.long al), .second, .val (.long r), .second, .val (.int (1 : Int32))] [(.long r)])) _
        refine XS.lload X1.here hx rfl (hb hby at_157) rfl ?_
        show Steps p.tables e below (T1.setTop (mkF m 159 #[.val (.long q1), .second, .val (.int p2), .val (.int p3), .val (.long (q1 &&& (9223372036854775807 : Int64))), .second, .val (.int (p2 &&& (3 : Int32))), .val (.long bs), .second, .val (.int ((p3 &&& (2147483647 : Int32)) % (63 : Int32))), .val (.long al), .second, .val (.long r), .second, .val (.int (1 : Int32))] [(.long al), (.long r)])) _
        refine XS.lcmp X1.here hx rfl (hb hby at_159) rfl ?_
        show Steps p.tables e below (T1.setTop (mkF m 160 #[.val (.long q1), .second, .val (.int p2), .val (.int p3), .val (.long (q1 &&& (9223372036854775807 : Int64))), .second, .val (.int (p2 &&& (3 : Int32))), .val (.long bs), .second, .val (.int ((p3 &&& (2147483647 : Int32)) % (63 : Int32))), .val (.long al), .second, .val (.long r), .second, .val (.int (1 : Int32))] [(.int (lcmpW r al))])) _
        refine XS.ifNo X1.here hx rfl (hb hby at_160) rfl (Jvm.Free.XT.ll_eq_f he) ?_
        show Steps p.tables e below (T1.setTop (mkF m 163 #[.val (.long q1), .second, .val (.int p2), .val (.int p3), .val (.long (q1 &&& (9223372036854775807 : Int64))), .second, .val (.int (p2 &&& (3 : Int32))), .val (.long bs), .second, .val (.int ((p3 &&& (2147483647 : Int32)) % (63 : Int32))), .val (.long al), .second, .val (.long r), .second, .val (.int (1 : Int32))] [])) _
        refine XS.lload X1.here hx rfl (hb hby at_163) rfl ?_
        show Steps p.tables e below (T1.setTop (mkF m 165 #[.val (.long q1), .second, .val (.int p2), .val (.int p3), .val (.long (q1 &&& (9223372036854775807 : Int64))), .second, .val (.int (p2 &&& (3 : Int32))), .val (.long bs), .second, .val (.int ((p3 &&& (2147483647 : Int32)) % (63 : Int32))), .val (.long al), .second, .val (.long r), .second, .val (.int (1 : Int32))] [(.long r)])) _
        refine X1.ldc2J hx (v := (64 : Int64)) hown (mvT hZ (hw _ (List.mem_of_getElem? (i := 14) rfl))) (g := (mkF m 165 #[.val (.long q1), .second, .val (.int p2), .val (.int p3), .val (.long (q1 &&& (9223372036854775807 : Int64))), .second, .val (.int (p2 &&& (3 : Int32))), .val (.long bs), .second, .val (.int ((p3 &&& (2147483647 : Int32)) % (63 : Int32))), .val (.long al), .second, .val (.long r), .second, .val (.int (1 : Int32))] [(.long r)])) rfl (hb hby at_165) ?_
        show Steps p.tables e below (T1.setTop (mkF m 168 #[.val (.long q1), .second, .val (.int p2), .val (.int p3), .val (.long (q1 &&& (9223372036854775807 : Int64))), .second, .val (.int (p2 &&& (3 : Int32))), .val (.long bs), .second, .val (.int ((p3 &&& (2147483647 : Int32)) % (63 : Int32))), .val (.long al), .second, .val (.long r), .second, .val (.int (1 : Int32))] [(.long (64 : Int64)), (.long r)])) _
        refine XS.lcmp X1.here hx rfl (hb hby at_168) rfl ?_
        show Steps p.tables e below (T1.setTop (mkF m 169 #[.val (.long q1), .second, .val (.int p2), .val (.int p3), .val (.long (q1 &&& (9223372036854775807 : Int64))), .second, .val (.int (p2 &&& (3 : Int32))), .val (.long bs), .second, .val (.int ((p3 &&& (2147483647 : Int32)) % (63 : Int32))), .val (.long al), .second, .val (.long r), .second, .val (.int (1 : Int32))] [(.int (lcmpW r (64 : Int64)))])) _
        refine XS.ifNo X1.here hx rfl (hb hby at_169) rfl (Jvm.Free.XT.ll_ne_f ((f4 hbs).2.resolve_left he)) ?_
        show Steps p.tables e below (T1.setTop (mkF m 172 #[.val (.long q1), .second, .val (.int p2), .val (.int p3), .val (.long (q1 &&& (9223372036854775807 : Int64))), .second, .val (.int (p2 &&& (3 : Int32))), .val (.long bs), .second, .val (.int ((p3 &&& (2147483647 : Int32)) % (63 : Int32))), .val (.long al), .second, .val (.long r), .second, .val (.int (1 : Int32))] [])) _
        refine XS.iconst X1.here hx rfl (hb hby at_172) ?_
        show Steps p.tables e below (T1.setTop (mkF m 173 #[.val (.long q1), .second, .val (.int p2), .val (.int p3), .val (.long (q1 &&& (9223372036854775807 : Int64))), .second, .val (.int (p2 &&& (3 : Int32))), .val (.long bs), .second, .val (.int ((p3 &&& (2147483647 : Int32)) % (63 : Int32))), .val (.long al), .second, .val (.long r), .second, .val (.int (1 : Int32))] [(.int (1 : Int32))])) _
        refine XS.goto X1.here hx rfl (pc0 := 173) (pc' := 177) rfl (hb hby at_173) (by decide) (by decide) ?_
        show Steps p.tables e below (T1.setTop (mkF m 177 #[.val (.long q1), .second, .val (.int p2), .val (.int p3), .val (.long (q1 &&& (9223372036854775807 : Int64))), .second, .val (.int (p2 &&& (3 : Int32))), .val (.long bs), .second, .val (.int ((p3 &&& (2147483647 : Int32)) % (63 : Int32))), .val (.long al), .second, .val (.long r), .second, .val (.int (1 : Int32))] [(.int (1 : Int32))])) _
        exact retN X1 hx (t := .boolean) Bd.returns (by simp) (hb hby at_177) hr
      · show Q_law Z q1 p2 p3 h0 n0 _ T1.heap _
        rw [e1]
        exact ⟨rfl, N1⟩
set_option maxRecDepth 65536 in
set_option maxHeartbeats 40000000 in
theorem comes_1 {Post : Tables → Env → Array Value → State → Outcome → State → Prop} (hpost : ∀ tb e args s v u, (limb_1_1.after args s (.returned v) u = true ∧ limb_1_2.after args s (.returned v) u = true ∧ True) → FrameEnd s (.returned v) u (Jvm.fieldLocs frame_1_writes args s ++ Jvm.arrayLocs frame_1_arrays args s ++ Jvm.staticLocs frame_1_statics s) 0 0 → Post tb e args s (.returned v) u) :
    ArmFor flags0 classFile x code maxLocals ret World_1 tables_1 room_1 Calls_1 rest_1 Pre_1 Post := by
  intro l hfl _ _ p e ha hc hk s m args below hf hA hF happ hP
  obtain ⟨hcalls, hrest, hpre⟩ := hP
  obtain ⟨-, -, -, hnamed, -, -, -, hat⟩ := (Spec.applies_iff hf).mp happ
  obtain ⟨hg, hn⟩ := and_e (Cond.before_iff.mp (show (Jvm.Cond.and given_1 narrow_1).before args s = true from hpre))
  obtain ⟨hcount, hg0⟩ := and_e hg
  obtain ⟨ga0, hg1⟩ := and_e hg0
  obtain ⟨ga1, hg2⟩ := and_e hg1
  have ga2 := hg2
  obtain ⟨w0, w1, w2, rfl⟩ : ∃ w0 w1 w2 : Value, args = #[w0, w1, w2] := by
    have hs : args.size = 3 := by simpa [Cond.value, given_1] using hcount
    obtain ⟨L⟩ := args
    match L, hs with
    | [w0, w1, w2], _ => exact ⟨w0, w1, w2, rfl⟩
  have hw := fun d (hd : d ∈ tables_1) => atoms_spec (ws := Jvm.Cond.code x code maxLocals ret :: tables_1) hat d (List.mem_cons_of_mem _ hd)
  obtain ⟨i0, ei0⟩ := isL_v ga0
  obtain rfl : w0 = (.long i0) := Option.some.inj ei0
  obtain ⟨i1, ei1⟩ := is_v ga1
  obtain rfl : w1 = (.int i1) := Option.some.inj ei1
  obtain ⟨i2, ei2⟩ := is_v ga2
  obtain rfl : w2 = (.int i2) := Option.some.inj ei2
  obtain ⟨n, o, h1, h2, h3, _, L, rfl, ⟨rfl, N⟩, hq⟩ := rm_law l s _ hw tables_1 i0 i1 i2 s.heap s.heap.size (Nat.le_refl _) p e ha hc hk s m _ below hf ((Spec.applies_iff_loose hf).mp happ).1 ⟨rfl, State.Warmed39.refl s, rfl⟩ trivial
  refine ⟨n, _, h1, h2, h3, hpost _ _ _ _ _ _ ⟨Cond.after_iff.mpr rfl, Cond.after_iff.mpr (eq_i res_at (Term.int_eval (1)) rfl), trivial⟩ ⟨hq.1, hq.2.1, (hq.2.2.sift fun y hy => Or.inr (N y hy)).mono (by decide) (by decide)⟩⟩
theorem main_1_1 : Claimed_1_1 := comes_1 fun _ _ _ _ _ _ h hF => ⟨h.1, hF⟩
theorem main_1_2 : Claimed_1_2 := comes_1 fun _ _ _ _ _ _ h hF => ⟨h.2.1, hF⟩
end Jvm.Pilot.@@N@@
namespace Jvm.Pilot.@@N@@
open Jvm Jvm.ClassFile Sem Op Lib Jvm.Free Jvm.Stand Jvm.Pilot.@@N@@.Jvm.D
/-! MADE BY PROGRAM (witnessworld.py) out of the Statement's table words and the real class files: 10 classes; the members and pool entries that the words name. The judged class is class 1, her method 1. -/
namespace start1
open Jvm.ClassFile
def u (s : String) : CpInfo := .utf8 (stringToUtf16 s)
/-- a pool by its gaps: so many unusable entries, then the entry; so many at the end -/
def gap : Nat → List CpInfo → List CpInfo
  | 0, r => r
  | n + 1, r => .unusable :: gap n r
def poolList (es : List (Nat × CpInfo)) (last : Nat) : List CpInfo := es.foldr (fun e r => gap e.1 (e.2 :: r)) (gap last [])
def pool (es : List (Nat × CpInfo)) (last : Nat) : Array CpInfo := ⟨poolList es last⟩
def fileOf (pool : Array CpInfo) (this : Nat) (attrs : Array Attribute := #[]) (ms : Array MethodInfo := #[]) (fl : Nat := 33) (sup : Nat := 0) (ifs : Array Nat := #[]) (fds : Array FieldInfo := #[]) : ClassFile where
  minorVersion := 0
  majorVersion := 65
  constantPool := pool
  accessFlags := fl
  thisClass := this
  superClass := sup
  interfaces := ifs
  fields := fds
  methods := ms
  attributes := attrs
def plain (name : String) (sup : Option ClassId) : Class where
  name := name
  kind := .ordinary
  loader := none
  accessFlags := 33
  super := sup
  interfaces := #[]
  cf := none
  fields := #[]
  methods := #[]
  instanceTypes := #[]
  staticTypes := #[]
  resolved := #[]
  callSites := []
  init := .initialized
  statics := none
  mirror := none

def pool0 : Array CpInfo := pool [(5, u "<init>"), (0, u "()V"), (1, .class_ 10), (1, u "java/lang/Object")] 113

def k0m0 : Method := { name := "<init>", desc := "()V", sig := { parameters := [], returnType := none }, accessFlags := 1, code := none }
/-- java/lang/Object -/
def k0 : Class := { plain "java/lang/Object" none with
  accessFlags := 33
  interfaces := #[]
  cf := some (fileOf pool0 8 #[] #[{ accessFlags := 1, nameIndex := 5, descriptorIndex := 6, attributes := #[] }] 33 0 #[] #[])
  fields := #[]
  methods := #[k0m0]
  instanceTypes := #[]
  staticTypes := #[]
  resolved := Array.replicate 124 none
  statics := none }

def pool1 : Array CpInfo := pool [(2, .class_ 4), (1, u "java/lang/Object"), (0, u "<init>"), (0, u "()V"), (2, .long 9223372036854775807), (1, .long 8191), (1, .long 4095), (1, .integer 2147483647), (0, .methodref 17 18), (0, .class_ 19), (0, .nameAndType 20 21), (0, u "com/example/hinterland/hinterland/internal/NativeAllocator"), (0, u "startAlignment"), (0, u "(JJ)J"), (0, .long 4096), (1, .long 64), (1, .class_ 27), (0, u "com/example/hinterland/hinterland/internal/NativeAllocatorStartAlignmentPinLaw"), (2, u "law"), (0, u "(JII)Z")] 3

def k1m0 : Method := { name := "<init>", desc := "()V", sig := { parameters := [], returnType := none }, accessFlags := 2, code := none }
def k1c1 : Code := { maxStack := 6, maxLocals := 15, code := code, exceptionTable := #[], attributes := #[] }
def k1m1 : Method := { name := "law", desc := "(JII)Z", sig := { parameters := [.long, .int, .int], returnType := some .boolean }, accessFlags := 9, code := some k1c1 }
/-- com/example/hinterland/hinterland/internal/NativeAllocatorStartAlignmentPinLaw -/
def k1 : Class := { plain "com/example/hinterland/hinterland/internal/NativeAllocatorStartAlignmentPinLaw" (some 0) with
  accessFlags := 49
  interfaces := #[]
  cf := some (fileOf pool1 26 #[] #[{ accessFlags := 2, nameIndex := 5, descriptorIndex := 6, attributes := #[] }, { accessFlags := 9, nameIndex := 30, descriptorIndex := 31, attributes := #[] }] 49 2 #[] #[])
  fields := #[]
  methods := #[k1m0, k1m1]
  instanceTypes := #[]
  staticTypes := #[]
  resolved := Array.replicate 35 none
  statics := none }

def pool2 : Array CpInfo := pool [(2, .class_ 4), (1, u "java/lang/Object"), (3, .class_ 10), (1, u "com/example/hinterland/hinterland/internal/NativeAllocator"), (0, u "lifetime"), (0, u "Lcom/example/hinterland/hinterland/internal/ArenaLifetime;"), (18, u "(JJ)J"), (2, u "startAlignment"), (56, .methodref 92 93), (0, .class_ 94), (0, .nameAndType 95 31), (0, u "java/lang/Math"), (0, u "max"), (0, .long 4096), (1, .long 64), (46, u "LINE_ALIGNED_SIZE"), (0, u "J"), (1, u "LINE_ALIGNMENT")] 46

def k2c0 : Code := { maxStack := 4, maxLocals := 4, code := prog_33_method_11_code, exceptionTable := #[], attributes := #[] }
def k2m0 : Method := { name := "startAlignment", desc := "(JJ)J", sig := { parameters := [.long, .long], returnType := some .long }, accessFlags := 8, code := some k2c0 }
/-- com/example/hinterland/hinterland/internal/NativeAllocator -/
def k2 : Class := { plain "com/example/hinterland/hinterland/internal/NativeAllocator" (some 0) with
  accessFlags := 49
  interfaces := #[]
  cf := some (fileOf pool2 8 #[] #[{ accessFlags := 8, nameIndex := 34, descriptorIndex := 31, attributes := #[] }] 49 2 #[] #[{ accessFlags := 24, nameIndex := 145, descriptorIndex := 146, attributes := #[] }, { accessFlags := 24, nameIndex := 148, descriptorIndex := 146, attributes := #[] }, { accessFlags := 18, nameIndex := 11, descriptorIndex := 12, attributes := #[] }])
  fields := #[{ name := "LINE_ALIGNED_SIZE", type := .long, accessFlags := 24, slot := 0, constantValue := 0 }, { name := "LINE_ALIGNMENT", type := .long, accessFlags := 24, slot := 1, constantValue := 0 }, { name := "lifetime", type := (.object "com/example/hinterland/hinterland/internal/ArenaLifetime"), accessFlags := 18, slot := 0, constantValue := 0 }]
  methods := #[k2m0]
  instanceTypes := #[(.object "com/example/hinterland/hinterland/internal/ArenaLifetime")]
  staticTypes := #[.long, .long]
  resolved := Array.replicate 195 none
  statics := none }

def pool3 : Array CpInfo := pool [(1, .class_ 2), (0, u "java/lang/Math"), (1, .class_ 6), (1, u "java/lang/Object"), (0, u "<init>"), (0, u "()V"), (89, .class_ 100), (1, u "java/lang/Math$RandomNumberGeneratorHolder"), (20, u "(JJ)J"), (50, u "negativeZeroFloatBits"), (0, u "J"), (2, u "negativeZeroDoubleBits"), (21, u "max"), (46, u "$assertionsDisabled"), (0, u "Z"), (91, u "twoToTheDoubleScaleDown"), (0, u "D"), (4, u "twoToTheDoubleScaleUp"), (9, u "E"), (3, u "PI"), (2, u "TAU"), (2, u "DEGREES_TO_RADIANS"), (0, u "RADIANS_TO_DEGREES")] 94

def k3m0 : Method := { name := "<init>", desc := "()V", sig := { parameters := [], returnType := none }, accessFlags := 2, code := none }
def k3c1 : Code := { maxStack := 4, maxLocals := 4, code := jdk_29_method_66_code, exceptionTable := #[], attributes := #[] }
def k3m1 : Method := { name := "max", desc := "(JJ)J", sig := { parameters := [.long, .long], returnType := some .long }, accessFlags := 9, code := some k3c1 }
/-- java/lang/Math -/
def k3 : Class := { plain "java/lang/Math" (some 0) with
  accessFlags := 49
  interfaces := #[]
  cf := some (fileOf pool3 1 #[.nestMembers #[98]] #[{ accessFlags := 2, nameIndex := 7, descriptorIndex := 8, attributes := #[] }, { accessFlags := 9, nameIndex := 198, descriptorIndex := 121, attributes := #[] }] 49 4 #[] #[{ accessFlags := 25, nameIndex := 354, descriptorIndex := 339, attributes := #[] }, { accessFlags := 25, nameIndex := 358, descriptorIndex := 339, attributes := #[] }, { accessFlags := 25, nameIndex := 361, descriptorIndex := 339, attributes := #[] }, { accessFlags := 26, nameIndex := 364, descriptorIndex := 339, attributes := #[] }, { accessFlags := 26, nameIndex := 365, descriptorIndex := 339, attributes := #[] }, { accessFlags := 26, nameIndex := 172, descriptorIndex := 173, attributes := #[] }, { accessFlags := 26, nameIndex := 176, descriptorIndex := 173, attributes := #[] }, { accessFlags := 8, nameIndex := 344, descriptorIndex := 339, attributes := #[] }, { accessFlags := 8, nameIndex := 338, descriptorIndex := 339, attributes := #[] }, { accessFlags := 4120, nameIndex := 245, descriptorIndex := 246, attributes := #[] }])
  fields := #[{ name := "E", type := .double, accessFlags := 25, slot := 0, constantValue := 0 }, { name := "PI", type := .double, accessFlags := 25, slot := 1, constantValue := 0 }, { name := "TAU", type := .double, accessFlags := 25, slot := 2, constantValue := 0 }, { name := "DEGREES_TO_RADIANS", type := .double, accessFlags := 26, slot := 3, constantValue := 0 }, { name := "RADIANS_TO_DEGREES", type := .double, accessFlags := 26, slot := 4, constantValue := 0 }, { name := "negativeZeroFloatBits", type := .long, accessFlags := 26, slot := 5, constantValue := 0 }, { name := "negativeZeroDoubleBits", type := .long, accessFlags := 26, slot := 6, constantValue := 0 }, { name := "twoToTheDoubleScaleUp", type := .double, accessFlags := 8, slot := 7, constantValue := 0 }, { name := "twoToTheDoubleScaleDown", type := .double, accessFlags := 8, slot := 8, constantValue := 0 }, { name := "$assertionsDisabled", type := .boolean, accessFlags := 4120, slot := 9, constantValue := 0 }]
  methods := #[k3m0, k3m1]
  instanceTypes := #[]
  staticTypes := #[.double, .double, .double, .double, .double, .long, .long, .double, .double, .boolean]
  resolved := Array.replicate 460 none
  statics := none }

def pool4 : Array CpInfo := pool [(1, u "java/lang/Cloneable"), (0, .class_ 1), (0, u "java/lang/Object"), (0, .class_ 3)] 3

/-- java/lang/Cloneable -/
def k4 : Class := { plain "java/lang/Cloneable" (some 0) with
  accessFlags := 1537
  interfaces := #[]
  cf := some (fileOf pool4 2 #[] #[] 1537 4 #[] #[])
  fields := #[]
  methods := #[]
  instanceTypes := #[]
  staticTypes := #[]
  resolved := Array.replicate 8 none
  statics := none }

def pool5 : Array CpInfo := pool [(1, u "java/io/Serializable"), (0, .class_ 1), (0, u "java/lang/Object"), (0, .class_ 3)] 3

/-- java/io/Serializable -/
def k5 : Class := { plain "java/io/Serializable" (some 0) with
  accessFlags := 1537
  interfaces := #[]
  cf := some (fileOf pool5 2 #[] #[] 1537 4 #[] #[])
  fields := #[]
  methods := #[]
  instanceTypes := #[]
  staticTypes := #[]
  resolved := Array.replicate 8 none
  statics := none }

/-- the primitive byte -/
def k6 : Class := { plain "byte" none with kind := .primitive 'B', accessFlags := 0x411 }
/-- [B -/
def k7 : Class := { plain "[B" (some 0) with kind := .array 6 .byte, interfaces := #[4, 5], accessFlags := 1041 }

/-- the primitive int -/
def k8 : Class := { plain "int" none with kind := .primitive 'I', accessFlags := 0x411 }
/-- [I -/
def k9 : Class := { plain "[I" (some 0) with kind := .array 8 .int, interfaces := #[4, 5], accessFlags := 1041 }

def heap : Heap := #[]
def classes : Array Class := #[k0, k1, k2, k3, k4, k5, k6, k7, k8, k9]
def interned : List (Array UInt16 × Addr) := []
def slotsUsed : Nat := 0
def theMethod : MethodId := ⟨1, 1⟩
def args0 : Array Value := #[.long 5, .int 3, .int 2]
def aboutOver (below : List Frame) : State where
  vm := { classes := classes, interned := interned.toArray }
  heap := heap
  slotsUsed := slotsUsed
  threads := #[{ frames := .invoking theMethod args0 :: below }]
def below0 : List Frame := [.native { method := ⟨0, 0⟩, args := #[] }]
def about1 : State := aboutOver below0
def p0 : Program := .bare "" "" ""
def e0 : Env := launch0.env 0 0 0
theorem w_frames : about1.frames = Frame.invoking theMethod args0 :: below0 := rfl
set_option maxRecDepth 65536 in
theorem w_args : argsFit about1.vm theMethod args0 = true := by decide +kernel
set_option maxRecDepth 65536 in
theorem w_heap : heapFits about1 = true := by decide +kernel
set_option maxRecDepth 65536 in
theorem w_runnable : about1.curStatus? = some .runnable := by decide +kernel
set_option maxRecDepth 65536 in
theorem w_alone : about1.alone = true := by decide +kernel
set_option maxRecDepth 65536 in
theorem w_named : about1.methodNamed? x = some theMethod := by decide +kernel
set_option maxRecDepth 65536 in
theorem w_hears : about1.hears theMethod below0 = true := by decide +kernel
set_option maxRecDepth 65536 in
theorem w_ripe : about1.ripe theMethod args0 below0 = true := by decide +kernel
theorem w_running : about1.status = .running := rfl
set_option maxRecDepth 65536 in
theorem w_room : about1.hasRoom e0.platform room_1 = true :=
  launch0.hasRoom_least _ room_1 (by decide +kernel) (by decide +kernel) (by decide +kernel) (by decide +kernel) (by decide +kernel) (by decide +kernel)
theorem allAtoms_all (ts : List Jvm.Cond) (a : Array Jvm.Value) (st : Jvm.State) : (allAtoms ts).before a st = ts.all (fun c => c.before a st) := by
  induction ts with
  | nil => rfl
  | cons c t ih =>
    show (Jvm.Cond.and c (allAtoms t)).before a st = _
    rw [Jvm.Cond.before_and, ih, List.all_cons]
def words1 : List Jvm.Cond := Jvm.Cond.code x code maxLocals ret :: tables_1
/-- a 'code' word, met by the world's own term for the bytes: nothing is compared byte by byte -/
theorem code_word {y : MethodName} {bytes : ByteArray} {mx : Nat} {rt : Option FieldType} {a : Array Value} {s : State} {m : MethodId} {meth : Method} {c : Code} (h1 : s.methodNamed? y = some m) (h2 : s.vm.method? m = some meth) (h3 : meth.code = some c) (h4 : c.code = bytes)
    (h5 : (c.maxLocals == mx && c.exceptionTable.isEmpty && decide (c.maxStack ≤ mostOperands) && decide (meth.sig.returnType = rt) && !meth.locks && decide (parseMethodDescriptor y.desc = some meth.sig)) = true) : (Jvm.Cond.code y bytes mx rt).before a s = true := by
  simp only [Bool.and_eq_true, beq_iff_eq, Bool.not_eq_true', decide_eq_true_eq] at h5
  obtain ⟨⟨⟨⟨⟨g1, g2⟩, g3⟩, g4⟩, g5⟩, g6⟩ := h5
  simp [Cond.before, Cond.holds, Cond.value, h1, h2, h3, h4, g1, g2, g3, g4, g5, g6]
def isCode : Jvm.Cond → Bool
  | .code _ _ _ _ => true
  | _ => false
theorem all_split {L : List Jvm.Cond} {P : Jvm.Cond → Bool} (h1 : L.all (fun c => isCode c || P c) = true) (h2 : ∀ c ∈ L.filter isCode, P c = true) : L.all P = true := by
  refine List.all_eq_true.mpr fun c hc => ?_
  have h := List.all_eq_true.mp h1 c hc
  rcases Bool.eq_false_or_eq_true (isCode c) with hi | hi
  · exact h2 c (List.mem_filter.mpr ⟨hc, hi⟩)
  · simpa [hi] using h
set_option maxRecDepth 65536 in
theorem w_c0 : (Jvm.Cond.code x code maxLocals ret).before args0 about1 = true := code_word (m := ⟨1, 1⟩) (meth := k1m1) (c := k1c1) (by decide +kernel) rfl rfl rfl (by decide +kernel)
set_option maxRecDepth 65536 in
theorem w_c1 : (Jvm.Cond.code ({ cls := "com/example/hinterland/hinterland/internal/NativeAllocator", name := "startAlignment", desc := "(JJ)J" } : Jvm.MethodName) prog_33_method_11_code (4 : Nat) (Option.some Jvm.ClassFile.FieldType.long)).before args0 about1 = true := code_word (m := ⟨2, 0⟩) (meth := k2m0) (c := k2c0) (by decide +kernel) rfl rfl rfl (by decide +kernel)
set_option maxRecDepth 65536 in
theorem w_c2 : (Jvm.Cond.code ({ cls := "java/lang/Math", name := "max", desc := "(JJ)J" } : Jvm.MethodName) jdk_29_method_66_code (4 : Nat) (Option.some Jvm.ClassFile.FieldType.long)).before args0 about1 = true := code_word (m := ⟨3, 1⟩) (meth := k3m1) (c := k3c1) (by decide +kernel) rfl rfl rfl (by decide +kernel)
def codes1 : List Jvm.Cond := [Jvm.Cond.code x code maxLocals ret, Jvm.Cond.code ({ cls := "com/example/hinterland/hinterland/internal/NativeAllocator", name := "startAlignment", desc := "(JJ)J" } : Jvm.MethodName) prog_33_method_11_code (4 : Nat) (Option.some Jvm.ClassFile.FieldType.long), Jvm.Cond.code ({ cls := "java/lang/Math", name := "max", desc := "(JJ)J" } : Jvm.MethodName) jdk_29_method_66_code (4 : Nat) (Option.some Jvm.ClassFile.FieldType.long)]
set_option maxRecDepth 65536 in
theorem codes_eq : words1.filter isCode = codes1 := rfl
theorem w_codes : ∀ c ∈ words1.filter isCode, c.before args0 about1 = true := by
  rw [codes_eq]
  intro c hc
  simp only [codes1, List.mem_cons, List.not_mem_nil, or_false] at hc
  rcases hc with rfl | rfl | rfl
  · exact w_c0
  · exact w_c1
  · exact w_c2
set_option maxRecDepth 65536 in
theorem w_t1 : words1.all (fun c => isCode c || c.before args0 about1) = true := by decide +kernel
theorem w_tables : (allAtoms (Jvm.Cond.code x code maxLocals ret :: tables_1)).before args0 about1 = true := by
  rw [allAtoms_all]
  show words1.all (fun c => c.before args0 about1) = true
  refine all_split ?_ w_codes
  rw [w_t1]
set_option maxRecDepth 65536 in
theorem w_case : (Jvm.Cond.and given_1 narrow_1).before args0 about1 = true := by decide +kernel
theorem w_applies : (headSpec (Jvm.Cond.code x code maxLocals ret :: tables_1) room_1).applies x e0.platform about1 = true :=
  (Spec.applies_iff w_frames).mpr ⟨w_running, w_runnable, w_alone, w_named, w_hears, w_ripe, w_room, w_tables⟩
theorem atStart : AtStart classFile x code maxLocals ret World_1 tables_1 room_1 Calls_1 rest_1 Pre_1 launch0 p0 e0 about1 theMethod args0 below0 :=
  ⟨lists_1, trivial, launch0.admits_env _ _ _, launch0.least_env, fairChoices_fair.cas, fairChoices_fair.clock, w_frames, w_args, w_heap, w_applies, trivial, trivial, w_case⟩
end start1
theorem witness_1 : WitnessClaimed_1 := ⟨start1.p0, start1.e0, start1.about1, start1.theMethod, start1.args0, start1.below0, start1.atStart⟩
end Jvm.Pilot.@@N@@
