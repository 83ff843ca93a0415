import JvmDerived
import JvmDerived.Pilot.@@N@@Statement
import JvmDerived.Pilot.@@N@@Code
set_option linter.unusedVariables false
set_option linter.unusedSimpArgs false
namespace Jvm.Pilot.@@N@@
open Jvm Jvm.ClassFile Sem Op Lib Jvm.Free Jvm.Stand Jvm.LawKit Jvm.RoadKit Bundle Jvm.Pilot.@@N@@.Jvm.D
def own_min (a b : Int32) : Int32 := if b < a then b else a
def own_max (a b : Int32) : Int32 := if a < b then b else a
def own_at (c s x : Int32) : Int32 := if c = (0 : Int32) then 0 else if x < s then 0 else 1
def own_v (s0 s1 s2 s3 : Int32) : Nat → Int32
  | 0 => s0
  | 1 => s1
  | 2 => s2
  | _ => s3
def own_bs (v : Nat → Int32) (x : Int32) : Nat → Nat → Nat → Nat
  | 0, lo, _ => lo
  | k + 1, lo, hi => if lo < hi then (if x < v ((lo + hi) / 2) then own_bs v x k lo ((lo + hi) / 2) else own_bs v x k ((lo + hi) / 2 + 1) hi) else lo
def own_list (s0 s1 s2 s3 : Int32) : List Value := [.int s0, .int s3, .int s1, .int s2, .int s2, .int s1, .int s3, .int s0]
theorem own_lt5 : ∀ lo hi : Fin 5, (Int32.ofNat lo.1 < Int32.ofNat hi.1) ↔ lo.1 < hi.1 := by decide +kernel
theorem own_mid5 : ∀ lo hi : Fin 5, (((Int32.ofNat lo.1 + Int32.ofNat hi.1).toUInt32 >>> ((1 : Int32) &&& 31).toUInt32).toInt32) = Int32.ofNat ((lo.1 + hi.1) / 2) := by decide +kernel
theorem own_up5 : ∀ lo : Fin 5, Int32.ofNat lo.1 + (1 : Int32) = Int32.ofNat (lo.1 + 1) := by decide +kernel
theorem own_ix4 : ∀ j : Fin 4, (¬ ((2 : Int32) * Int32.ofNat j.1) < 0 ∧ ((2 : Int32) * Int32.ofNat j.1) < (8 : Int32)) ∧ ((2 : Int32) * Int32.ofNat j.1).toNatClampNeg = 2 * j.1 := by decide +kernel
theorem own_get (s0 s1 s2 s3 : Int32) : ∀ j : Fin 4, (own_list s0 s1 s2 s3).getD (2 * j.1) (.int 0) = .int (own_v s0 s1 s2 s3 j.1)
  | 0 => rfl
  | 1 => rfl
  | 2 => rfl
  | 3 => rfl
theorem own_djdk_29_69_0 : decode jdk_29_method_69_code 0 = .ok (.iload_n 0, 1) := by decide +kernel
theorem own_djdk_29_69_1 : decode jdk_29_method_69_code 1 = .ok (.iload_n 1, 1) := by decide +kernel
theorem own_djdk_29_69_2 : decode jdk_29_method_69_code 2 = .ok (.if_icmp .gt 7, 3) := by decide +kernel
theorem own_djdk_29_69_5 : decode jdk_29_method_69_code 5 = .ok (.iload_n 0, 1) := by decide +kernel
theorem own_djdk_29_69_6 : decode jdk_29_method_69_code 6 = .ok (.goto 4, 3) := by decide +kernel
theorem own_djdk_29_69_9 : decode jdk_29_method_69_code 9 = .ok (.iload_n 1, 1) := by decide +kernel
theorem own_djdk_29_69_10 : decode jdk_29_method_69_code 10 = .ok (.ireturn, 1) := by decide +kernel
theorem own_ef_min (m : MethodId) (x0 : Int32) (x1 : Int32) : entryFrame m #[(.int x0), (.int x1)] 2 = mkF m 0 #[.val (.int x0), .val (.int x1)] [] := by first | (simp [entryFrame, mkF, argsToLocals, Value.category]; done) | rfl
def Q_min (Z : State) (p1 : Int32) (p2 : Int32) (h0 : Heap) (n0 : Nat) (v : Option Value) (h : Heap) (L : List Loc) : Prop := v = some (.int (own_min p1 p2)) ∧ Fr n0 L ∧ h = h0
set_option maxRecDepth 65536 in
set_option maxHeartbeats 40000000 in
theorem rm_min (l : Launch) (Z : State) (a0 : Array Value) (hw : ∀ d ∈ tables_1, d.before a0 Z = true) (ws : List Jvm.Cond) (p1 : Int32) (p2 : Int32) (h0 : Heap) (n0 : Nat) (Z0 : n0 ≤ h0.size)  :
    MetFree l (⟨"java/lang/Math", "min", "(II)I"⟩ : MethodName) (head1 (Jvm.Cond.code (⟨"java/lang/Math", "min", "(II)I"⟩ : MethodName) jdk_29_method_69_code 2 (some .int) :: ws) ({ frames := 0, cells := 0, slots := 0, locals := 0 } : Room)) (fun a U => a = #[(.int p1), (.int p2)] ∧ Z.Warmed39 U.vm ∧ U.heap = h0) (fun _ _ _ _ _ => True) (fun _ U o U' => ∃ v L, o = .returned v ∧ Q_min Z p1 p2 h0 n0 v U'.heap L ∧ FrameEnd U o U' L ({ frames := 0, cells := 0, slots := 0, locals := 0 } : Room).cells ({ frames := 0, cells := 0, slots := 0, locals := 0 } : Room).slots) := by
  refine MetFree.of_bodySF (Jvm.Free.JP.mathPlain rfl (by decide +kernel)) hisR ?_
  intro p e s m args below meth c s₁ Bd hml0 hP hK
  obtain ⟨rfl, hZ, hh⟩ := hP
  have hx := Bd.exec
  have hby := Bd.bytes
  have hml : c.maxLocals = 2 := hml0
  have hown : s.vm.findClass "java/lang/Math" = some m.cls := findClass_of_methodNamed Bd.named
  have hnm := (name_of_methodNamed Bd.named Bd.method).1
  have X0 : Stand p l e ({ frames := 0, cells := 0, slots := 0, locals := 0 } : Room) s m #[(.int p1), (.int p2)] below meth c s₁ [] 0 0 := Stand.of_body Bd
  have e0 : s₁.heap = h0 := by rw [← hh, Bd.state]; rfl
  have N0 := Fr.nil n0
  have pre0 : ∀ t, Steps p.tables e below (s₁.setTop (mkF m 0 #[.val (.int p1), .val (.int p2)] [])) t → Steps p.tables e below (s₁.setTop (entryFrame m #[(.int p1), (.int p2)] 2)) t := fun t k => castTop (own_ef_min m p1 p2) k
  obtain ⟨r, h_r⟩ : ∃ z : Int32, z = (if p2 < p1 then p2 else p1) := ⟨_, rfl⟩
  obtain ⟨fs, hr, hrun, hended, hW, hsame⟩ := X0.leave (v := some (.int r)) (fun h => by rw [Bd.returns] at h; cases h)
  refine ⟨_, _, pre0 _ ?_, hrun, hended, _, _, rfl, ?_, ⟨_, rfl⟩, hW, hsame.mono (by decide) (by decide)⟩
  · show Steps p.tables e below (s₁.setTop (mkF m 0 #[.val (.int p1), .val (.int p2)] [])) _
    refine XS.iloadN X0.here hx rfl (hb hby own_djdk_29_69_0) rfl ?_
    show Steps p.tables e below (s₁.setTop (mkF m 1 #[.val (.int p1), .val (.int p2)] [(.int p1)])) _
    refine XS.iloadN X0.here hx rfl (hb hby own_djdk_29_69_1) rfl ?_
    show Steps p.tables e below (s₁.setTop (mkF m 2 #[.val (.int p1), .val (.int p2)] [(.int p2), (.int p1)])) _
    refine (show ∀ tt, Steps p.tables e below (s₁.setTop (mkF m 10 #[.val (.int p1), .val (.int p2)] [(.int r)])) tt → Steps p.tables e below (s₁.setTop (mkF m 2 #[.val (.int p1), .val (.int p2)] [(.int p2), (.int p1)])) tt from ?_) _ ?_
    · intro tt kt
      by_cases hc : p2 < p1
      · rw [h_r, if_pos hc] at kt
        show Steps p.tables e below (s₁.setTop (mkF m 2 #[.val (.int p1), .val (.int p2)] [(.int p2), (.int p1)])) _
        refine XS.icmpYes X0.here hx rfl (pc0 := 2) (pc' := 9) rfl (hb hby own_djdk_29_69_2) rfl (tlt hc).2.2.1 (by decide) (by decide) ?_
        show Steps p.tables e below (s₁.setTop (mkF m 9 #[.val (.int p1), .val (.int p2)] [])) _
        refine XS.iloadN X0.here hx rfl (hb hby own_djdk_29_69_9) rfl ?_
        exact kt
      · rw [h_r, if_neg hc] at kt
        show Steps p.tables e below (s₁.setTop (mkF m 2 #[.val (.int p1), .val (.int p2)] [(.int p2), (.int p1)])) _
        refine XS.icmpNo X0.here hx rfl (hb hby own_djdk_29_69_2) rfl (flt hc).2.2.1 ?_
        show Steps p.tables e below (s₁.setTop (mkF m 5 #[.val (.int p1), .val (.int p2)] [])) _
        refine XS.iloadN X0.here hx rfl (hb hby own_djdk_29_69_5) rfl ?_
        show Steps p.tables e below (s₁.setTop (mkF m 6 #[.val (.int p1), .val (.int p2)] [(.int p1)])) _
        refine XS.goto X0.here hx rfl (pc0 := 6) (pc' := 10) rfl (hb hby own_djdk_29_69_6) (by decide) (by decide) ?_
        exact kt
    show Steps p.tables e below (s₁.setTop (mkF m 10 #[.val (.int p1), .val (.int p2)] [(.int r)])) _
    exact retOut X0 hx Bd.returns rfl (Or.inl ⟨rfl, Or.inl rfl, _, rfl⟩) (hb hby own_djdk_29_69_10) hr
  · show Q_min Z p1 p2 h0 n0 _ s₁.heap _
    rw [e0]
    exact ⟨(by rw [h_r]; rfl), N0, rfl⟩
theorem own_djdk_29_65_0 : decode jdk_29_method_65_code 0 = .ok (.iload_n 0, 1) := by decide +kernel
theorem own_djdk_29_65_1 : decode jdk_29_method_65_code 1 = .ok (.iload_n 1, 1) := by decide +kernel
theorem own_djdk_29_65_2 : decode jdk_29_method_65_code 2 = .ok (.if_icmp .lt 7, 3) := by decide +kernel
theorem own_djdk_29_65_5 : decode jdk_29_method_65_code 5 = .ok (.iload_n 0, 1) := by decide +kernel
theorem own_djdk_29_65_6 : decode jdk_29_method_65_code 6 = .ok (.goto 4, 3) := by decide +kernel
theorem own_djdk_29_65_9 : decode jdk_29_method_65_code 9 = .ok (.iload_n 1, 1) := by decide +kernel
theorem own_djdk_29_65_10 : decode jdk_29_method_65_code 10 = .ok (.ireturn, 1) := by decide +kernel
theorem own_ef_max (m : MethodId) (x0 : Int32) (x1 : Int32) : entryFrame m #[(.int x0), (.int x1)] 2 = mkF m 0 #[.val (.int x0), .val (.int x1)] [] := by first | (simp [entryFrame, mkF, argsToLocals, Value.category]; done) | rfl
def Q_max (Z : State) (p1 : Int32) (p2 : Int32) (h0 : Heap) (n0 : Nat) (v : Option Value) (h : Heap) (L : List Loc) : Prop := v = some (.int (own_max p1 p2)) ∧ Fr n0 L ∧ h = h0
set_option maxRecDepth 65536 in
set_option maxHeartbeats 40000000 in
theorem rm_max (l : Launch) (Z : State) (a0 : Array Value) (hw : ∀ d ∈ tables_1, d.before a0 Z = true) (ws : List Jvm.Cond) (p1 : Int32) (p2 : Int32) (h0 : Heap) (n0 : Nat) (Z0 : n0 ≤ h0.size)  :
    MetFree l (⟨"java/lang/Math", "max", "(II)I"⟩ : MethodName) (head1 (Jvm.Cond.code (⟨"java/lang/Math", "max", "(II)I"⟩ : MethodName) jdk_29_method_65_code 2 (some .int) :: ws) ({ frames := 0, cells := 0, slots := 0, locals := 0 } : Room)) (fun a U => a = #[(.int p1), (.int p2)] ∧ Z.Warmed39 U.vm ∧ U.heap = h0) (fun _ _ _ _ _ => True) (fun _ U o U' => ∃ v L, o = .returned v ∧ Q_max Z p1 p2 h0 n0 v U'.heap L ∧ FrameEnd U o U' L ({ frames := 0, cells := 0, slots := 0, locals := 0 } : Room).cells ({ frames := 0, cells := 0, slots := 0, locals := 0 } : Room).slots) := by
  refine MetFree.of_bodySF (Jvm.Free.JP.mathPlain rfl (by decide +kernel)) hisR ?_
  intro p e s m args below meth c s₁ Bd hml0 hP hK
  obtain ⟨rfl, hZ, hh⟩ := hP
  have hx := Bd.exec
  have hby := Bd.bytes
  have hml : c.maxLocals = 2 := hml0
  have hown : s.vm.findClass "java/lang/Math" = some m.cls := findClass_of_methodNamed Bd.named
  have hnm := (name_of_methodNamed Bd.named Bd.method).1
  have X0 : Stand p l e ({ frames := 0, cells := 0, slots := 0, locals := 0 } : Room) s m #[(.int p1), (.int p2)] below meth c s₁ [] 0 0 := Stand.of_body Bd
  have e0 : s₁.heap = h0 := by rw [← hh, Bd.state]; rfl
  have N0 := Fr.nil n0
  have pre0 : ∀ t, Steps p.tables e below (s₁.setTop (mkF m 0 #[.val (.int p1), .val (.int p2)] [])) t → Steps p.tables e below (s₁.setTop (entryFrame m #[(.int p1), (.int p2)] 2)) t := fun t k => castTop (own_ef_max m p1 p2) k
  obtain ⟨r, h_r⟩ : ∃ z : Int32, z = (if p1 < p2 then p2 else p1) := ⟨_, rfl⟩
  obtain ⟨fs, hr, hrun, hended, hW, hsame⟩ := X0.leave (v := some (.int r)) (fun h => by rw [Bd.returns] at h; cases h)
  refine ⟨_, _, pre0 _ ?_, hrun, hended, _, _, rfl, ?_, ⟨_, rfl⟩, hW, hsame.mono (by decide) (by decide)⟩
  · show Steps p.tables e below (s₁.setTop (mkF m 0 #[.val (.int p1), .val (.int p2)] [])) _
    refine XS.iloadN X0.here hx rfl (hb hby own_djdk_29_65_0) rfl ?_
    show Steps p.tables e below (s₁.setTop (mkF m 1 #[.val (.int p1), .val (.int p2)] [(.int p1)])) _
    refine XS.iloadN X0.here hx rfl (hb hby own_djdk_29_65_1) rfl ?_
    show Steps p.tables e below (s₁.setTop (mkF m 2 #[.val (.int p1), .val (.int p2)] [(.int p2), (.int p1)])) _
    refine (show ∀ tt, Steps p.tables e below (s₁.setTop (mkF m 10 #[.val (.int p1), .val (.int p2)] [(.int r)])) tt → Steps p.tables e below (s₁.setTop (mkF m 2 #[.val (.int p1), .val (.int p2)] [(.int p2), (.int p1)])) tt from ?_) _ ?_
    · intro tt kt
      by_cases hc : p1 < p2
      · rw [h_r, if_pos hc] at kt
        show Steps p.tables e below (s₁.setTop (mkF m 2 #[.val (.int p1), .val (.int p2)] [(.int p2), (.int p1)])) _
        refine XS.icmpYes X0.here hx rfl (pc0 := 2) (pc' := 9) rfl (hb hby own_djdk_29_65_2) rfl (tlt hc).1 (by decide) (by decide) ?_
        show Steps p.tables e below (s₁.setTop (mkF m 9 #[.val (.int p1), .val (.int p2)] [])) _
        refine XS.iloadN X0.here hx rfl (hb hby own_djdk_29_65_9) rfl ?_
        exact kt
      · rw [h_r, if_neg hc] at kt
        show Steps p.tables e below (s₁.setTop (mkF m 2 #[.val (.int p1), .val (.int p2)] [(.int p2), (.int p1)])) _
        refine XS.icmpNo X0.here hx rfl (hb hby own_djdk_29_65_2) rfl (flt hc).1 ?_
        show Steps p.tables e below (s₁.setTop (mkF m 5 #[.val (.int p1), .val (.int p2)] [])) _
        refine XS.iloadN X0.here hx rfl (hb hby own_djdk_29_65_5) rfl ?_
        show Steps p.tables e below (s₁.setTop (mkF m 6 #[.val (.int p1), .val (.int p2)] [(.int p1)])) _
        refine XS.goto X0.here hx rfl (pc0 := 6) (pc' := 10) rfl (hb hby own_djdk_29_65_6) (by decide) (by decide) ?_
        exact kt
    show Steps p.tables e below (s₁.setTop (mkF m 10 #[.val (.int p1), .val (.int p2)] [(.int r)])) _
    exact retOut X0 hx Bd.returns rfl (Or.inl ⟨rfl, Or.inl rfl, _, rfl⟩) (hb hby own_djdk_29_65_10) hr
  · show Q_max Z p1 p2 h0 n0 _ s₁.heap _
    rw [e0]
    exact ⟨(by rw [h_r]; rfl), N0, rfl⟩
theorem own_dmethod_2_0 : decode method_2_code 0 = .ok (.iload_n 0, 1) := by decide +kernel
theorem own_dmethod_2_1 : decode method_2_code 1 = .ok (.ifCond .eq 10, 3) := by decide +kernel
theorem own_dmethod_2_4 : decode method_2_code 4 = .ok (.iload_n 1, 1) := by decide +kernel
theorem own_dmethod_2_5 : decode method_2_code 5 = .ok (.iload_n 2, 1) := by decide +kernel
theorem own_dmethod_2_6 : decode method_2_code 6 = .ok (.if_icmp .gt 5, 3) := by decide +kernel
theorem own_dmethod_2_9 : decode method_2_code 9 = .ok (.iconst 1, 1) := by decide +kernel
theorem own_dmethod_2_10 : decode method_2_code 10 = .ok (.ireturn, 1) := by decide +kernel
theorem own_dmethod_2_11 : decode method_2_code 11 = .ok (.iconst 0, 1) := by decide +kernel
theorem own_dmethod_2_12 : decode method_2_code 12 = .ok (.ireturn, 1) := by decide +kernel
theorem own_pn_com_example_tollgate_tollgate_replay_StartPairsStartingByPinLaw : plainName "com/example/tollgate/tollgate/replay/StartPairsStartingByPinLaw" = true := by first | (simp [plainName, overriddenIn]; done) | decide +kernel
theorem own_ef_at (m : MethodId) (x0 : Int32) (x1 : Int32) (x2 : Int32) : entryFrame m #[(.int x0), (.int x1), (.int x2)] 3 = mkF m 0 #[.val (.int x0), .val (.int x1), .val (.int x2)] [] := by first | (simp [entryFrame, mkF, argsToLocals, Value.category]; done) | rfl
def Q_at (Z : State) (p1 : Int32) (p2 : Int32) (p3 : Int32) (h0 : Heap) (n0 : Nat) (v : Option Value) (h : Heap) (L : List Loc) : Prop := v = some (.int (own_at p1 p2 p3)) ∧ Fr n0 L ∧ h = h0
set_option maxRecDepth 65536 in
set_option maxHeartbeats 40000000 in
theorem rm_at (l : Launch) (Z : State) (a0 : Array Value) (hw : ∀ d ∈ tables_1, d.before a0 Z = true) (ws : List Jvm.Cond) (p1 : Int32) (p2 : Int32) (p3 : Int32) (h0 : Heap) (n0 : Nat) (Z0 : n0 ≤ h0.size)  :
    MetFree l (⟨"com/example/tollgate/tollgate/replay/StartPairsStartingByPinLaw", "at", "(ZII)I"⟩ : MethodName) (head1 (Jvm.Cond.code (⟨"com/example/tollgate/tollgate/replay/StartPairsStartingByPinLaw", "at", "(ZII)I"⟩ : MethodName) method_2_code 3 (some .int) :: ws) ({ frames := 0, cells := 0, slots := 0, locals := 0 } : Room)) (fun a U => a = #[(.int p1), (.int p2), (.int p3)] ∧ Z.Warmed39 U.vm ∧ U.heap = h0) (fun _ _ _ _ _ => True) (fun _ U o U' => ∃ v L, o = .returned v ∧ Q_at Z p1 p2 p3 h0 n0 v U'.heap L ∧ FrameEnd U o U' L ({ frames := 0, cells := 0, slots := 0, locals := 0 } : Room).cells ({ frames := 0, cells := 0, slots := 0, locals := 0 } : Room).slots) := by
  refine MetFree.of_bodySF (plainFor_of_name own_pn_com_example_tollgate_tollgate_replay_StartPairsStartingByPinLaw) hisR ?_
  intro p e s m args below meth c s₁ Bd hml0 hP hK
  obtain ⟨rfl, hZ, hh⟩ := hP
  have hx := Bd.exec
  have hby := Bd.bytes
  have hml : c.maxLocals = 3 := hml0
  have hown : s.vm.findClass "com/example/tollgate/tollgate/replay/StartPairsStartingByPinLaw" = some m.cls := findClass_of_methodNamed Bd.named
  have hnm := (name_of_methodNamed Bd.named Bd.method).1
  have X0 : Stand p l e ({ frames := 0, cells := 0, slots := 0, locals := 0 } : Room) s m #[(.int p1), (.int p2), (.int p3)] below meth c s₁ [] 0 0 := Stand.of_body Bd
  have e0 : s₁.heap = h0 := by rw [← hh, Bd.state]; rfl
  have N0 := Fr.nil n0
  have pre0 : ∀ t, Steps p.tables e below (s₁.setTop (mkF m 0 #[.val (.int p1), .val (.int p2), .val (.int p3)] [])) t → Steps p.tables e below (s₁.setTop (entryFrame m #[(.int p1), (.int p2), (.int p3)] 3)) t := fun t k => castTop (own_ef_at m p1 p2 p3) k
  by_cases c1 : p1 = (0 : Int32)
  · obtain ⟨fs, hr, hrun, hended, hW, hsame⟩ := X0.leave (v := some (.int (0 : Int32))) (fun h => by rw [Bd.returns] at h; cases h)
    refine ⟨_, _, pre0 _ ?_, hrun, hended, _, _, rfl, ?_, ⟨_, rfl⟩, hW, hsame.mono (by decide) (by decide)⟩
    · show Steps p.tables e below (s₁.setTop (mkF m 0 #[.val (.int p1), .val (.int p2), .val (.int p3)] [])) _
      refine XS.iloadN X0.here hx rfl (hb hby own_dmethod_2_0) rfl ?_
      show Steps p.tables e below (s₁.setTop (mkF m 1 #[.val (.int p1), .val (.int p2), .val (.int p3)] [(.int p1)])) _
      refine XS.ifYes X0.here hx rfl (pc0 := 1) (pc' := 11) rfl (hb hby own_dmethod_2_1) rfl ((if0 _ _).trans (teq c1).1) (by decide) (by decide) ?_
      show Steps p.tables e below (s₁.setTop (mkF m 11 #[.val (.int p1), .val (.int p2), .val (.int p3)] [])) _
      refine XS.iconst X0.here hx rfl (hb hby own_dmethod_2_11) ?_
      show Steps p.tables e below (s₁.setTop (mkF m 12 #[.val (.int p1), .val (.int p2), .val (.int p3)] [(.int (0 : Int32))])) _
      exact retOut X0 hx Bd.returns rfl (Or.inl ⟨rfl, Or.inl rfl, _, rfl⟩) (hb hby own_dmethod_2_12) hr
    · show Q_at Z p1 p2 p3 h0 n0 _ s₁.heap _
      rw [e0]
      exact ⟨(by unfold own_at; rw [if_pos c1]), N0, rfl⟩
  · by_cases c2 : p3 < p2
    · obtain ⟨fs, hr, hrun, hended, hW, hsame⟩ := X0.leave (v := some (.int (0 : Int32))) (fun h => by rw [Bd.returns] at h; cases h)
      refine ⟨_, _, pre0 _ ?_, hrun, hended, _, _, rfl, ?_, ⟨_, rfl⟩, hW, hsame.mono (by decide) (by decide)⟩
      · show Steps p.tables e below (s₁.setTop (mkF m 0 #[.val (.int p1), .val (.int p2), .val (.int p3)] [])) _
        refine XS.iloadN X0.here hx rfl (hb hby own_dmethod_2_0) rfl ?_
        show Steps p.tables e below (s₁.setTop (mkF m 1 #[.val (.int p1), .val (.int p2), .val (.int p3)] [(.int p1)])) _
        refine XS.ifNo X0.here hx rfl (hb hby own_dmethod_2_1) rfl ((if0 _ _).trans (feq c1).1) ?_
        show Steps p.tables e below (s₁.setTop (mkF m 4 #[.val (.int p1), .val (.int p2), .val (.int p3)] [])) _
        refine XS.iloadN X0.here hx rfl (hb hby own_dmethod_2_4) rfl ?_
        show Steps p.tables e below (s₁.setTop (mkF m 5 #[.val (.int p1), .val (.int p2), .val (.int p3)] [(.int p2)])) _
        refine XS.iloadN X0.here hx rfl (hb hby own_dmethod_2_5) rfl ?_
        show Steps p.tables e below (s₁.setTop (mkF m 6 #[.val (.int p1), .val (.int p2), .val (.int p3)] [(.int p3), (.int p2)])) _
        refine XS.icmpYes X0.here hx rfl (pc0 := 6) (pc' := 11) rfl (hb hby own_dmethod_2_6) rfl (tlt c2).2.2.1 (by decide) (by decide) ?_
        show Steps p.tables e below (s₁.setTop (mkF m 11 #[.val (.int p1), .val (.int p2), .val (.int p3)] [])) _
        refine XS.iconst X0.here hx rfl (hb hby own_dmethod_2_11) ?_
        show Steps p.tables e below (s₁.setTop (mkF m 12 #[.val (.int p1), .val (.int p2), .val (.int p3)] [(.int (0 : Int32))])) _
        exact retOut X0 hx Bd.returns rfl (Or.inl ⟨rfl, Or.inl rfl, _, rfl⟩) (hb hby own_dmethod_2_12) hr
      · show Q_at Z p1 p2 p3 h0 n0 _ s₁.heap _
        rw [e0]
        exact ⟨(by unfold own_at; rw [if_neg c1, if_pos c2]), N0, rfl⟩
    · obtain ⟨fs, hr, hrun, hended, hW, hsame⟩ := X0.leave (v := some (.int (1 : Int32))) (fun h => by rw [Bd.returns] at h; cases h)
      refine ⟨_, _, pre0 _ ?_, hrun, hended, _, _, rfl, ?_, ⟨_, rfl⟩, hW, hsame.mono (by decide) (by decide)⟩
      · show Steps p.tables e below (s₁.setTop (mkF m 0 #[.val (.int p1), .val (.int p2), .val (.int p3)] [])) _
        refine XS.iloadN X0.here hx rfl (hb hby own_dmethod_2_0) rfl ?_
        show Steps p.tables e below (s₁.setTop (mkF m 1 #[.val (.int p1), .val (.int p2), .val (.int p3)] [(.int p1)])) _
        refine XS.ifNo X0.here hx rfl (hb hby own_dmethod_2_1) rfl ((if0 _ _).trans (feq c1).1) ?_
        show Steps p.tables e below (s₁.setTop (mkF m 4 #[.val (.int p1), .val (.int p2), .val (.int p3)] [])) _
        refine XS.iloadN X0.here hx rfl (hb hby own_dmethod_2_4) rfl ?_
        show Steps p.tables e below (s₁.setTop (mkF m 5 #[.val (.int p1), .val (.int p2), .val (.int p3)] [(.int p2)])) _
        refine XS.iloadN X0.here hx rfl (hb hby own_dmethod_2_5) rfl ?_
        show Steps p.tables e below (s₁.setTop (mkF m 6 #[.val (.int p1), .val (.int p2), .val (.int p3)] [(.int p3), (.int p2)])) _
        refine XS.icmpNo X0.here hx rfl (hb hby own_dmethod_2_6) rfl (flt c2).2.2.1 ?_
        show Steps p.tables e below (s₁.setTop (mkF m 9 #[.val (.int p1), .val (.int p2), .val (.int p3)] [])) _
        refine XS.iconst X0.here hx rfl (hb hby own_dmethod_2_9) ?_
        show Steps p.tables e below (s₁.setTop (mkF m 10 #[.val (.int p1), .val (.int p2), .val (.int p3)] [(.int (1 : Int32))])) _
        exact retOut X0 hx Bd.returns rfl (Or.inl ⟨rfl, Or.inl rfl, _, rfl⟩) (hb hby own_dmethod_2_10) hr
      · show Q_at Z p1 p2 p3 h0 n0 _ s₁.heap _
        rw [e0]
        exact ⟨(by unfold own_at; rw [if_neg c1, if_neg c2]), N0, rfl⟩
theorem own_os5 {a b c d e : Slot} {f : Slot} {v : Int32} (h : One f) : storeLocals #[a, b, c, d, e, f] 5 (.int v) = some #[a, b, c, d, e, .val (.int v)] := by
  rcases h with rfl | ⟨w, rfl, hw⟩
  · rfl
  · cases w <;> first | rfl | (simp [Value.category] at hw)
theorem own_dprog_152_2_0 : decode prog_152_method_2_code 0 = .ok (.iconst 0, 1) := by decide +kernel
theorem own_dprog_152_2_1 : decode prog_152_method_2_code 1 = .ok (.istore_n 3, 1) := by decide +kernel
theorem own_dprog_152_2_2 : decode prog_152_method_2_code 2 = .ok (.iload_n 1, 1) := by decide +kernel
theorem own_dprog_152_2_3 : decode prog_152_method_2_code 3 = .ok (.istore 4, 2) := by decide +kernel
theorem own_dprog_152_2_5 : decode prog_152_method_2_code 5 = .ok (.iload_n 3, 1) := by decide +kernel
theorem own_dprog_152_2_6 : decode prog_152_method_2_code 6 = .ok (.iload 4, 2) := by decide +kernel
theorem own_dprog_152_2_8 : decode prog_152_method_2_code 8 = .ok (.if_icmp .ge 36, 3) := by decide +kernel
theorem own_dprog_152_2_11 : decode prog_152_method_2_code 11 = .ok (.iload_n 3, 1) := by decide +kernel
theorem own_dprog_152_2_12 : decode prog_152_method_2_code 12 = .ok (.iload 4, 2) := by decide +kernel
theorem own_dprog_152_2_14 : decode prog_152_method_2_code 14 = .ok (.iadd, 1) := by decide +kernel
theorem own_dprog_152_2_15 : decode prog_152_method_2_code 15 = .ok (.iconst 1, 1) := by decide +kernel
theorem own_dprog_152_2_16 : decode prog_152_method_2_code 16 = .ok (.iushr, 1) := by decide +kernel
theorem own_dprog_152_2_17 : decode prog_152_method_2_code 17 = .ok (.istore 5, 2) := by decide +kernel
theorem own_dprog_152_2_19 : decode prog_152_method_2_code 19 = .ok (.aload_n 0, 1) := by decide +kernel
theorem own_dprog_152_2_20 : decode prog_152_method_2_code 20 = .ok (.iconst 2, 1) := by decide +kernel
theorem own_dprog_152_2_21 : decode prog_152_method_2_code 21 = .ok (.iload 5, 2) := by decide +kernel
theorem own_dprog_152_2_23 : decode prog_152_method_2_code 23 = .ok (.imul, 1) := by decide +kernel
theorem own_dprog_152_2_24 : decode prog_152_method_2_code 24 = .ok (.iaload, 1) := by decide +kernel
theorem own_dprog_152_2_25 : decode prog_152_method_2_code 25 = .ok (.iload_n 2, 1) := by decide +kernel
theorem own_dprog_152_2_26 : decode prog_152_method_2_code 26 = .ok (.if_icmp .gt 11, 3) := by decide +kernel
theorem own_dprog_152_2_29 : decode prog_152_method_2_code 29 = .ok (.iload 5, 2) := by decide +kernel
theorem own_dprog_152_2_31 : decode prog_152_method_2_code 31 = .ok (.iconst 1, 1) := by decide +kernel
theorem own_dprog_152_2_32 : decode prog_152_method_2_code 32 = .ok (.iadd, 1) := by decide +kernel
theorem own_dprog_152_2_33 : decode prog_152_method_2_code 33 = .ok (.istore_n 3, 1) := by decide +kernel
theorem own_dprog_152_2_34 : decode prog_152_method_2_code 34 = .ok (.goto 7, 3) := by decide +kernel
theorem own_dprog_152_2_37 : decode prog_152_method_2_code 37 = .ok (.iload 5, 2) := by decide +kernel
theorem own_dprog_152_2_39 : decode prog_152_method_2_code 39 = .ok (.istore 4, 2) := by decide +kernel
theorem own_dprog_152_2_41 : decode prog_152_method_2_code 41 = .ok (.goto (-36), 3) := by decide +kernel
theorem own_dprog_152_2_44 : decode prog_152_method_2_code 44 = .ok (.iload_n 3, 1) := by decide +kernel
theorem own_dprog_152_2_45 : decode prog_152_method_2_code 45 = .ok (.ireturn, 1) := by decide +kernel
set_option maxRecDepth 65536 in
set_option maxHeartbeats 40000000 in
theorem own_turn_gt {p : Program} {l : Launch} {e : Env} {R : Room} {s : State} {m : MethodId} {args : Array Value} {below : List Frame} {meth : Method} {c : Code} {T0 : State} {locs : List Loc} {cells slots : Nat} {Z : State} {a0 : Array Value} {h0 : Heap} (a1 : Addr) (p2 p3 lo hi x : Int32) (s5 : Slot) (cl : Cell)
    (X0 : Stand p l e R s m args below meth c T0 locs cells slots) (hx : p.tables.exec = Jvm.exec) (hZ : Z.Warmed39 s.vm) (hw : ∀ d ∈ tables_1, d.before a0 Z = true) (hby : c.code = prog_152_method_2_code) (hml : c.maxLocals = 6) (hown : s.vm.findClass "com/example/tollgate/tollgate/replay/StartPairs" = some m.cls) (e0 : T0.heap = h0) (hs5 : One s5) (hlt : lo < hi) (Ar : Arr Z h0 a1 cl .int) (hin : ¬ ((2 : Int32) * (((lo + hi).toUInt32 >>> ((1 : Int32) &&& 31).toUInt32).toInt32) < 0 ∨ cl.slots.size ≤ ((2 : Int32) * (((lo + hi).toUInt32 >>> ((1 : Int32) &&& 31).toUInt32).toInt32)).toNatClampNeg)) (hat : cl.slots[((2 : Int32) * (((lo + hi).toUInt32 >>> ((1 : Int32) &&& 31).toUInt32).toInt32)).toNatClampNeg]? = some (.int x)) (hc : p3 < x) :
     ∀ target, Steps p.tables e below (T0.setTop (mkF m 5 #[.val (.ref a1), .val (.int p2), .val (.int p3), .val (.int lo), .val (.int (((lo + hi).toUInt32 >>> ((1 : Int32) &&& 31).toUInt32).toInt32)), .val (.int (((lo + hi).toUInt32 >>> ((1 : Int32) &&& 31).toUInt32).toInt32))] [])) target → Steps p.tables e below (T0.setTop (mkF m 5 #[.val (.ref a1), .val (.int p2), .val (.int p3), .val (.int lo), .val (.int hi), s5] [])) target := by
  intro target kt
  show Steps p.tables e below (T0.setTop (mkF m 5 #[.val (.ref a1), .val (.int p2), .val (.int p3), .val (.int lo), .val (.int hi), s5] [])) _
  refine XS.iloadN X0.here hx rfl (hb hby own_dprog_152_2_5) rfl ?_
  show Steps p.tables e below (T0.setTop (mkF m 6 #[.val (.ref a1), .val (.int p2), .val (.int p3), .val (.int lo), .val (.int hi), s5] [(.int lo)])) _
  refine XS.iload X0.here hx rfl (hb hby own_dprog_152_2_6) rfl ?_
  show Steps p.tables e below (T0.setTop (mkF m 8 #[.val (.ref a1), .val (.int p2), .val (.int p3), .val (.int lo), .val (.int hi), s5] [(.int hi), (.int lo)])) _
  refine XS.icmpNo X0.here hx rfl (hb hby own_dprog_152_2_8) rfl (tlt hlt).2.1 ?_
  show Steps p.tables e below (T0.setTop (mkF m 11 #[.val (.ref a1), .val (.int p2), .val (.int p3), .val (.int lo), .val (.int hi), s5] [])) _
  refine XS.iloadN X0.here hx rfl (hb hby own_dprog_152_2_11) rfl ?_
  show Steps p.tables e below (T0.setTop (mkF m 12 #[.val (.ref a1), .val (.int p2), .val (.int p3), .val (.int lo), .val (.int hi), s5] [(.int lo)])) _
  refine XS.iload X0.here hx rfl (hb hby own_dprog_152_2_12) rfl ?_
  show Steps p.tables e below (T0.setTop (mkF m 14 #[.val (.ref a1), .val (.int p2), .val (.int p3), .val (.int lo), .val (.int hi), s5] [(.int hi), (.int lo)])) _
  refine XS.iadd X0.here hx rfl (hb hby own_dprog_152_2_14) rfl ?_
  show Steps p.tables e below (T0.setTop (mkF m 15 #[.val (.ref a1), .val (.int p2), .val (.int p3), .val (.int lo), .val (.int hi), s5] [(.int (lo + hi))])) _
  refine XS.iconst X0.here hx rfl (hb hby own_dprog_152_2_15) ?_
  show Steps p.tables e below (T0.setTop (mkF m 16 #[.val (.ref a1), .val (.int p2), .val (.int p3), .val (.int lo), .val (.int hi), s5] [(.int (1 : Int32)), (.int (lo + hi))])) _
  refine XS.iushr X0.here hx rfl (hb hby own_dprog_152_2_16) rfl ?_
  show Steps p.tables e below (T0.setTop (mkF m 17 #[.val (.ref a1), .val (.int p2), .val (.int p3), .val (.int lo), .val (.int hi), s5] [(.int (((lo + hi).toUInt32 >>> ((1 : Int32) &&& 31).toUInt32).toInt32))])) _
  refine XS.istore X0.here hx rfl (hb hby own_dprog_152_2_17) rfl (l' := #[.val (.ref a1), .val (.int p2), .val (.int p3), .val (.int lo), .val (.int hi), .val (.int (((lo + hi).toUInt32 >>> ((1 : Int32) &&& 31).toUInt32).toInt32))]) (own_os5 hs5) ?_
  show Steps p.tables e below (T0.setTop (mkF m 19 #[.val (.ref a1), .val (.int p2), .val (.int p3), .val (.int lo), .val (.int hi), .val (.int (((lo + hi).toUInt32 >>> ((1 : Int32) &&& 31).toUInt32).toInt32))] [])) _
  refine XS.aloadN X0.here hx rfl (hb hby own_dprog_152_2_19) rfl rfl ?_
  show Steps p.tables e below (T0.setTop (mkF m 20 #[.val (.ref a1), .val (.int p2), .val (.int p3), .val (.int lo), .val (.int hi), .val (.int (((lo + hi).toUInt32 >>> ((1 : Int32) &&& 31).toUInt32).toInt32))] [(.ref a1)])) _
  refine XS.iconst X0.here hx rfl (hb hby own_dprog_152_2_20) ?_
  show Steps p.tables e below (T0.setTop (mkF m 21 #[.val (.ref a1), .val (.int p2), .val (.int p3), .val (.int lo), .val (.int hi), .val (.int (((lo + hi).toUInt32 >>> ((1 : Int32) &&& 31).toUInt32).toInt32))] [(.int (2 : Int32)), (.ref a1)])) _
  refine XS.iload X0.here hx rfl (hb hby own_dprog_152_2_21) rfl ?_
  show Steps p.tables e below (T0.setTop (mkF m 23 #[.val (.ref a1), .val (.int p2), .val (.int p3), .val (.int lo), .val (.int hi), .val (.int (((lo + hi).toUInt32 >>> ((1 : Int32) &&& 31).toUInt32).toInt32))] [(.int (((lo + hi).toUInt32 >>> ((1 : Int32) &&& 31).toUInt32).toInt32)), (.int (2 : Int32)), (.ref a1)])) _
  refine XS.imul X0.here hx rfl (hb hby own_dprog_152_2_23) rfl ?_
  show Steps p.tables e below (T0.setTop (mkF m 24 #[.val (.ref a1), .val (.int p2), .val (.int p3), .val (.int lo), .val (.int hi), .val (.int (((lo + hi).toUInt32 >>> ((1 : Int32) &&& 31).toUInt32).toInt32))] [(.int ((2 : Int32) * (((lo + hi).toUInt32 >>> ((1 : Int32) &&& 31).toUInt32).toInt32))), (.ref a1)])) _
  refine X0.iaload hx (j := ((2 : Int32) * (((lo + hi).toUInt32 >>> ((1 : Int32) &&& 31).toUInt32).toInt32))) (v := (.int x)) (by rw [e0]; exact Ar.1) (State.isArrayOf_alike hZ.alike Ar.2.1) Ar.2.2 hin hat (g := (mkF m 24 #[.val (.ref a1), .val (.int p2), .val (.int p3), .val (.int lo), .val (.int hi), .val (.int (((lo + hi).toUInt32 >>> ((1 : Int32) &&& 31).toUInt32).toInt32))] [(.int ((2 : Int32) * (((lo + hi).toUInt32 >>> ((1 : Int32) &&& 31).toUInt32).toInt32))), (.ref a1)])) rfl rfl (hb hby own_dprog_152_2_24) _ ?_
  show Steps p.tables e below (T0.setTop (mkF m 25 #[.val (.ref a1), .val (.int p2), .val (.int p3), .val (.int lo), .val (.int hi), .val (.int (((lo + hi).toUInt32 >>> ((1 : Int32) &&& 31).toUInt32).toInt32))] [(.int x)])) _
  refine XS.iloadN X0.here hx rfl (hb hby own_dprog_152_2_25) rfl ?_
  show Steps p.tables e below (T0.setTop (mkF m 26 #[.val (.ref a1), .val (.int p2), .val (.int p3), .val (.int lo), .val (.int hi), .val (.int (((lo + hi).toUInt32 >>> ((1 : Int32) &&& 31).toUInt32).toInt32))] [(.int p3), (.int x)])) _
  refine XS.icmpYes X0.here hx rfl (pc0 := 26) (pc' := 37) rfl (hb hby own_dprog_152_2_26) rfl (tlt hc).2.2.1 (by decide) (by decide) ?_
  show Steps p.tables e below (T0.setTop (mkF m 37 #[.val (.ref a1), .val (.int p2), .val (.int p3), .val (.int lo), .val (.int hi), .val (.int (((lo + hi).toUInt32 >>> ((1 : Int32) &&& 31).toUInt32).toInt32))] [])) _
  refine XS.iload X0.here hx rfl (hb hby own_dprog_152_2_37) rfl ?_
  show Steps p.tables e below (T0.setTop (mkF m 39 #[.val (.ref a1), .val (.int p2), .val (.int p3), .val (.int lo), .val (.int hi), .val (.int (((lo + hi).toUInt32 >>> ((1 : Int32) &&& 31).toUInt32).toInt32))] [(.int (((lo + hi).toUInt32 >>> ((1 : Int32) &&& 31).toUInt32).toInt32))])) _
  refine XS.istore X0.here hx rfl (hb hby own_dprog_152_2_39) rfl (l' := #[.val (.ref a1), .val (.int p2), .val (.int p3), .val (.int lo), .val (.int (((lo + hi).toUInt32 >>> ((1 : Int32) &&& 31).toUInt32).toInt32)), .val (.int (((lo + hi).toUInt32 >>> ((1 : Int32) &&& 31).toUInt32).toInt32))]) rfl ?_
  show Steps p.tables e below (T0.setTop (mkF m 41 #[.val (.ref a1), .val (.int p2), .val (.int p3), .val (.int lo), .val (.int (((lo + hi).toUInt32 >>> ((1 : Int32) &&& 31).toUInt32).toInt32)), .val (.int (((lo + hi).toUInt32 >>> ((1 : Int32) &&& 31).toUInt32).toInt32))] [])) _
  refine XS.goto X0.here hx rfl (pc0 := 41) (pc' := 5) rfl (hb hby own_dprog_152_2_41) (by decide) (by decide) ?_
  exact kt
set_option maxRecDepth 65536 in
set_option maxHeartbeats 40000000 in
theorem own_turn_le {p : Program} {l : Launch} {e : Env} {R : Room} {s : State} {m : MethodId} {args : Array Value} {below : List Frame} {meth : Method} {c : Code} {T0 : State} {locs : List Loc} {cells slots : Nat} {Z : State} {a0 : Array Value} {h0 : Heap} (a1 : Addr) (p2 p3 lo hi x : Int32) (s5 : Slot) (cl : Cell)
    (X0 : Stand p l e R s m args below meth c T0 locs cells slots) (hx : p.tables.exec = Jvm.exec) (hZ : Z.Warmed39 s.vm) (hw : ∀ d ∈ tables_1, d.before a0 Z = true) (hby : c.code = prog_152_method_2_code) (hml : c.maxLocals = 6) (hown : s.vm.findClass "com/example/tollgate/tollgate/replay/StartPairs" = some m.cls) (e0 : T0.heap = h0) (hs5 : One s5) (hlt : lo < hi) (Ar : Arr Z h0 a1 cl .int) (hin : ¬ ((2 : Int32) * (((lo + hi).toUInt32 >>> ((1 : Int32) &&& 31).toUInt32).toInt32) < 0 ∨ cl.slots.size ≤ ((2 : Int32) * (((lo + hi).toUInt32 >>> ((1 : Int32) &&& 31).toUInt32).toInt32)).toNatClampNeg)) (hat : cl.slots[((2 : Int32) * (((lo + hi).toUInt32 >>> ((1 : Int32) &&& 31).toUInt32).toInt32)).toNatClampNeg]? = some (.int x)) (hc : ¬ p3 < x) :
     ∀ target, Steps p.tables e below (T0.setTop (mkF m 5 #[.val (.ref a1), .val (.int p2), .val (.int p3), .val (.int ((((lo + hi).toUInt32 >>> ((1 : Int32) &&& 31).toUInt32).toInt32) + (1 : Int32))), .val (.int hi), .val (.int (((lo + hi).toUInt32 >>> ((1 : Int32) &&& 31).toUInt32).toInt32))] [])) target → Steps p.tables e below (T0.setTop (mkF m 5 #[.val (.ref a1), .val (.int p2), .val (.int p3), .val (.int lo), .val (.int hi), s5] [])) target := by
  intro target kt
  show Steps p.tables e below (T0.setTop (mkF m 5 #[.val (.ref a1), .val (.int p2), .val (.int p3), .val (.int lo), .val (.int hi), s5] [])) _
  refine XS.iloadN X0.here hx rfl (hb hby own_dprog_152_2_5) rfl ?_
  show Steps p.tables e below (T0.setTop (mkF m 6 #[.val (.ref a1), .val (.int p2), .val (.int p3), .val (.int lo), .val (.int hi), s5] [(.int lo)])) _
  refine XS.iload X0.here hx rfl (hb hby own_dprog_152_2_6) rfl ?_
  show Steps p.tables e below (T0.setTop (mkF m 8 #[.val (.ref a1), .val (.int p2), .val (.int p3), .val (.int lo), .val (.int hi), s5] [(.int hi), (.int lo)])) _
  refine XS.icmpNo X0.here hx rfl (hb hby own_dprog_152_2_8) rfl (tlt hlt).2.1 ?_
  show Steps p.tables e below (T0.setTop (mkF m 11 #[.val (.ref a1), .val (.int p2), .val (.int p3), .val (.int lo), .val (.int hi), s5] [])) _
  refine XS.iloadN X0.here hx rfl (hb hby own_dprog_152_2_11) rfl ?_
  show Steps p.tables e below (T0.setTop (mkF m 12 #[.val (.ref a1), .val (.int p2), .val (.int p3), .val (.int lo), .val (.int hi), s5] [(.int lo)])) _
  refine XS.iload X0.here hx rfl (hb hby own_dprog_152_2_12) rfl ?_
  show Steps p.tables e below (T0.setTop (mkF m 14 #[.val (.ref a1), .val (.int p2), .val (.int p3), .val (.int lo), .val (.int hi), s5] [(.int hi), (.int lo)])) _
  refine XS.iadd X0.here hx rfl (hb hby own_dprog_152_2_14) rfl ?_
  show Steps p.tables e below (T0.setTop (mkF m 15 #[.val (.ref a1), .val (.int p2), .val (.int p3), .val (.int lo), .val (.int hi), s5] [(.int (lo + hi))])) _
  refine XS.iconst X0.here hx rfl (hb hby own_dprog_152_2_15) ?_
  show Steps p.tables e below (T0.setTop (mkF m 16 #[.val (.ref a1), .val (.int p2), .val (.int p3), .val (.int lo), .val (.int hi), s5] [(.int (1 : Int32)), (.int (lo + hi))])) _
  refine XS.iushr X0.here hx rfl (hb hby own_dprog_152_2_16) rfl ?_
  show Steps p.tables e below (T0.setTop (mkF m 17 #[.val (.ref a1), .val (.int p2), .val (.int p3), .val (.int lo), .val (.int hi), s5] [(.int (((lo + hi).toUInt32 >>> ((1 : Int32) &&& 31).toUInt32).toInt32))])) _
  refine XS.istore X0.here hx rfl (hb hby own_dprog_152_2_17) rfl (l' := #[.val (.ref a1), .val (.int p2), .val (.int p3), .val (.int lo), .val (.int hi), .val (.int (((lo + hi).toUInt32 >>> ((1 : Int32) &&& 31).toUInt32).toInt32))]) (own_os5 hs5) ?_
  show Steps p.tables e below (T0.setTop (mkF m 19 #[.val (.ref a1), .val (.int p2), .val (.int p3), .val (.int lo), .val (.int hi), .val (.int (((lo + hi).toUInt32 >>> ((1 : Int32) &&& 31).toUInt32).toInt32))] [])) _
  refine XS.aloadN X0.here hx rfl (hb hby own_dprog_152_2_19) rfl rfl ?_
  show Steps p.tables e below (T0.setTop (mkF m 20 #[.val (.ref a1), .val (.int p2), .val (.int p3), .val (.int lo), .val (.int hi), .val (.int (((lo + hi).toUInt32 >>> ((1 : Int32) &&& 31).toUInt32).toInt32))] [(.ref a1)])) _
  refine XS.iconst X0.here hx rfl (hb hby own_dprog_152_2_20) ?_
  show Steps p.tables e below (T0.setTop (mkF m 21 #[.val (.ref a1), .val (.int p2), .val (.int p3), .val (.int lo), .val (.int hi), .val (.int (((lo + hi).toUInt32 >>> ((1 : Int32) &&& 31).toUInt32).toInt32))] [(.int (2 : Int32)), (.ref a1)])) _
  refine XS.iload X0.here hx rfl (hb hby own_dprog_152_2_21) rfl ?_
  show Steps p.tables e below (T0.setTop (mkF m 23 #[.val (.ref a1), .val (.int p2), .val (.int p3), .val (.int lo), .val (.int hi), .val (.int (((lo + hi).toUInt32 >>> ((1 : Int32) &&& 31).toUInt32).toInt32))] [(.int (((lo + hi).toUInt32 >>> ((1 : Int32) &&& 31).toUInt32).toInt32)), (.int (2 : Int32)), (.ref a1)])) _
  refine XS.imul X0.here hx rfl (hb hby own_dprog_152_2_23) rfl ?_
  show Steps p.tables e below (T0.setTop (mkF m 24 #[.val (.ref a1), .val (.int p2), .val (.int p3), .val (.int lo), .val (.int hi), .val (.int (((lo + hi).toUInt32 >>> ((1 : Int32) &&& 31).toUInt32).toInt32))] [(.int ((2 : Int32) * (((lo + hi).toUInt32 >>> ((1 : Int32) &&& 31).toUInt32).toInt32))), (.ref a1)])) _
  refine X0.iaload hx (j := ((2 : Int32) * (((lo + hi).toUInt32 >>> ((1 : Int32) &&& 31).toUInt32).toInt32))) (v := (.int x)) (by rw [e0]; exact Ar.1) (State.isArrayOf_alike hZ.alike Ar.2.1) Ar.2.2 hin hat (g := (mkF m 24 #[.val (.ref a1), .val (.int p2), .val (.int p3), .val (.int lo), .val (.int hi), .val (.int (((lo + hi).toUInt32 >>> ((1 : Int32) &&& 31).toUInt32).toInt32))] [(.int ((2 : Int32) * (((lo + hi).toUInt32 >>> ((1 : Int32) &&& 31).toUInt32).toInt32))), (.ref a1)])) rfl rfl (hb hby own_dprog_152_2_24) _ ?_
  show Steps p.tables e below (T0.setTop (mkF m 25 #[.val (.ref a1), .val (.int p2), .val (.int p3), .val (.int lo), .val (.int hi), .val (.int (((lo + hi).toUInt32 >>> ((1 : Int32) &&& 31).toUInt32).toInt32))] [(.int x)])) _
  refine XS.iloadN X0.here hx rfl (hb hby own_dprog_152_2_25) rfl ?_
  show Steps p.tables e below (T0.setTop (mkF m 26 #[.val (.ref a1), .val (.int p2), .val (.int p3), .val (.int lo), .val (.int hi), .val (.int (((lo + hi).toUInt32 >>> ((1 : Int32) &&& 31).toUInt32).toInt32))] [(.int p3), (.int x)])) _
  refine XS.icmpNo X0.here hx rfl (hb hby own_dprog_152_2_26) rfl (flt hc).2.2.1 ?_
  show Steps p.tables e below (T0.setTop (mkF m 29 #[.val (.ref a1), .val (.int p2), .val (.int p3), .val (.int lo), .val (.int hi), .val (.int (((lo + hi).toUInt32 >>> ((1 : Int32) &&& 31).toUInt32).toInt32))] [])) _
  refine XS.iload X0.here hx rfl (hb hby own_dprog_152_2_29) rfl ?_
  show Steps p.tables e below (T0.setTop (mkF m 31 #[.val (.ref a1), .val (.int p2), .val (.int p3), .val (.int lo), .val (.int hi), .val (.int (((lo + hi).toUInt32 >>> ((1 : Int32) &&& 31).toUInt32).toInt32))] [(.int (((lo + hi).toUInt32 >>> ((1 : Int32) &&& 31).toUInt32).toInt32))])) _
  refine XS.iconst X0.here hx rfl (hb hby own_dprog_152_2_31) ?_
  show Steps p.tables e below (T0.setTop (mkF m 32 #[.val (.ref a1), .val (.int p2), .val (.int p3), .val (.int lo), .val (.int hi), .val (.int (((lo + hi).toUInt32 >>> ((1 : Int32) &&& 31).toUInt32).toInt32))] [(.int (1 : Int32)), (.int (((lo + hi).toUInt32 >>> ((1 : Int32) &&& 31).toUInt32).toInt32))])) _
  refine XS.iadd X0.here hx rfl (hb hby own_dprog_152_2_32) rfl ?_
  show Steps p.tables e below (T0.setTop (mkF m 33 #[.val (.ref a1), .val (.int p2), .val (.int p3), .val (.int lo), .val (.int hi), .val (.int (((lo + hi).toUInt32 >>> ((1 : Int32) &&& 31).toUInt32).toInt32))] [(.int ((((lo + hi).toUInt32 >>> ((1 : Int32) &&& 31).toUInt32).toInt32) + (1 : Int32)))])) _
  refine XS.istoreN X0.here hx rfl (hb hby own_dprog_152_2_33) rfl (l' := #[.val (.ref a1), .val (.int p2), .val (.int p3), .val (.int ((((lo + hi).toUInt32 >>> ((1 : Int32) &&& 31).toUInt32).toInt32) + (1 : Int32))), .val (.int hi), .val (.int (((lo + hi).toUInt32 >>> ((1 : Int32) &&& 31).toUInt32).toInt32))]) rfl ?_
  show Steps p.tables e below (T0.setTop (mkF m 34 #[.val (.ref a1), .val (.int p2), .val (.int p3), .val (.int ((((lo + hi).toUInt32 >>> ((1 : Int32) &&& 31).toUInt32).toInt32) + (1 : Int32))), .val (.int hi), .val (.int (((lo + hi).toUInt32 >>> ((1 : Int32) &&& 31).toUInt32).toInt32))] [])) _
  refine XS.goto X0.here hx rfl (pc0 := 34) (pc' := 41) rfl (hb hby own_dprog_152_2_34) (by decide) (by decide) ?_
  show Steps p.tables e below (T0.setTop (mkF m 41 #[.val (.ref a1), .val (.int p2), .val (.int p3), .val (.int ((((lo + hi).toUInt32 >>> ((1 : Int32) &&& 31).toUInt32).toInt32) + (1 : Int32))), .val (.int hi), .val (.int (((lo + hi).toUInt32 >>> ((1 : Int32) &&& 31).toUInt32).toInt32))] [])) _
  refine XS.goto X0.here hx rfl (pc0 := 41) (pc' := 5) rfl (hb hby own_dprog_152_2_41) (by decide) (by decide) ?_
  exact kt
set_option maxRecDepth 65536 in
set_option maxHeartbeats 40000000 in
theorem own_leave {p : Program} {l : Launch} {e : Env} {R : Room} {s : State} {m : MethodId} {args : Array Value} {below : List Frame} {meth : Method} {c : Code} {T0 : State} {locs : List Loc} {cells slots : Nat} {Z : State} {a0 : Array Value} {h0 : Heap} (a1 : Addr) (p2 p3 lo hi : Int32) (s5 : Slot)
    (X0 : Stand p l e R s m args below meth c T0 locs cells slots) (hx : p.tables.exec = Jvm.exec) (hZ : Z.Warmed39 s.vm) (hw : ∀ d ∈ tables_1, d.before a0 Z = true) (hby : c.code = prog_152_method_2_code) (hml : c.maxLocals = 6) (hown : s.vm.findClass "com/example/tollgate/tollgate/replay/StartPairs" = some m.cls) (e0 : T0.heap = h0) (hlt : ¬ lo < hi) :
     ∀ target, Steps p.tables e below (T0.setTop (mkF m 44 #[.val (.ref a1), .val (.int p2), .val (.int p3), .val (.int lo), .val (.int hi), s5] [])) target → Steps p.tables e below (T0.setTop (mkF m 5 #[.val (.ref a1), .val (.int p2), .val (.int p3), .val (.int lo), .val (.int hi), s5] [])) target := by
  intro target kt
  show Steps p.tables e below (T0.setTop (mkF m 5 #[.val (.ref a1), .val (.int p2), .val (.int p3), .val (.int lo), .val (.int hi), s5] [])) _
  refine XS.iloadN X0.here hx rfl (hb hby own_dprog_152_2_5) rfl ?_
  show Steps p.tables e below (T0.setTop (mkF m 6 #[.val (.ref a1), .val (.int p2), .val (.int p3), .val (.int lo), .val (.int hi), s5] [(.int lo)])) _
  refine XS.iload X0.here hx rfl (hb hby own_dprog_152_2_6) rfl ?_
  show Steps p.tables e below (T0.setTop (mkF m 8 #[.val (.ref a1), .val (.int p2), .val (.int p3), .val (.int lo), .val (.int hi), s5] [(.int hi), (.int lo)])) _
  refine XS.icmpYes X0.here hx rfl (pc0 := 8) (pc' := 44) rfl (hb hby own_dprog_152_2_8) rfl (flt hlt).2.1 (by decide) (by decide) ?_
  exact kt
theorem own_loop {p : Program} {l : Launch} {e : Env} {R : Room} {s : State} {m : MethodId} {args : Array Value} {below : List Frame} {meth : Method} {c : Code} {T0 : State} {locs : List Loc} {cells slots : Nat} {Z : State} {a0 : Array Value} {h0 : Heap} (a1 : Addr) (p2 p3 : Int32) (cl : Cell) (s0 s1 s2 s3 : Int32)
    (X0 : Stand p l e R s m args below meth c T0 locs cells slots) (hx : p.tables.exec = Jvm.exec) (hZ : Z.Warmed39 s.vm) (hw : ∀ d ∈ tables_1, d.before a0 Z = true) (hby : c.code = prog_152_method_2_code) (hml : c.maxLocals = 6) (hown : s.vm.findClass "com/example/tollgate/tollgate/replay/StartPairs" = some m.cls) (e0 : T0.heap = h0)
    (Ar : Arr Z h0 a1 cl .int) (S : cl.slots.size = (8 : Int32).toNatClampNeg) (H : Has cl (own_list s0 s1 s2 s3) (.int 0)) :
    ∀ (k lo hi : Nat) (s5 : Slot), One s5 → hi - lo ≤ k → lo ≤ hi → hi ≤ 4 → ∃ (r4 : Int32) (s5' : Slot), ∀ target, Steps p.tables e below (T0.setTop (mkF m 44 #[.val (.ref a1), .val (.int p2), .val (.int p3), .val (.int (Int32.ofNat (own_bs (own_v s0 s1 s2 s3) p3 k lo hi))), .val (.int r4), s5'] [])) target →
      Steps p.tables e below (T0.setTop (mkF m 5 #[.val (.ref a1), .val (.int p2), .val (.int p3), .val (.int (Int32.ofNat lo)), .val (.int (Int32.ofNat hi)), s5] [])) target := by
  intro k
  induction k with
  | zero =>
    intro lo hi s5 h5 h1 h2 h3
    obtain rfl : lo = hi := by omega
    exact ⟨_, _, own_leave a1 p2 p3 _ _ s5 X0 hx hZ hw hby hml hown e0 (fun q => absurd ((own_lt5 ⟨lo, by omega⟩ ⟨lo, by omega⟩).mp q) (Nat.lt_irrefl _))⟩
  | succ k ih =>
    intro lo hi s5 h5 h1 h2 h3
    by_cases hlt : lo < hi
    · have q1 := (own_lt5 ⟨lo, by omega⟩ ⟨hi, by omega⟩).mpr hlt
      have q2 := own_mid5 ⟨lo, by omega⟩ ⟨hi, by omega⟩
      obtain ⟨md, hmd⟩ : ∃ z, z = (lo + hi) / 2 := ⟨_, rfl⟩
      have hm4 : md < 4 := by omega
      have q3 := own_ix4 ⟨md, hm4⟩
      have q4 := own_get s0 s1 s2 s3 ⟨md, hm4⟩
      have q5 := own_up5 ⟨md, by omega⟩
      simp only [← hmd] at q1 q2 q3 q4 q5
      have hin := inb_of S q3.1
      have hat := H.at (j := (2 : Int32) * Int32.ofNat md) hin (v := .int (own_v s0 s1 s2 s3 md)) (by rw [q3.2]; exact q4)
      unfold own_bs
      rw [if_pos hlt, ← hmd]
      by_cases hc : p3 < own_v s0 s1 s2 s3 md
      · rw [if_pos hc]
        obtain ⟨r4, s5', st⟩ := ih lo md (.val (.int (Int32.ofNat md))) (One.val rfl) (by omega) (by omega) (by omega)
        refine ⟨r4, s5', fun target kt => ?_⟩
        refine own_turn_gt a1 p2 p3 (Int32.ofNat lo) (Int32.ofNat hi) (own_v s0 s1 s2 s3 md) s5 cl X0 hx hZ hw hby hml hown e0 h5 q1 Ar (by rw [q2]; exact hin) (by rw [q2]; exact hat) hc target ?_
        rw [q2]
        exact st target kt
      · rw [if_neg hc]
        obtain ⟨r4, s5', st⟩ := ih (md + 1) hi (.val (.int (Int32.ofNat md))) (One.val rfl) (by omega) (by omega) (by omega)
        refine ⟨r4, s5', fun target kt => ?_⟩
        refine own_turn_le a1 p2 p3 (Int32.ofNat lo) (Int32.ofNat hi) (own_v s0 s1 s2 s3 md) s5 cl X0 hx hZ hw hby hml hown e0 h5 q1 Ar (by rw [q2]; exact hin) (by rw [q2]; exact hat) hc target ?_
        rw [q2, q5]
        exact st target kt
    · unfold own_bs
      rw [if_neg hlt]
      exact ⟨_, _, own_leave a1 p2 p3 _ _ s5 X0 hx hZ hw hby hml hown e0 (fun q => hlt ((own_lt5 ⟨lo, by omega⟩ ⟨hi, by omega⟩).mp q))⟩
theorem own_pn_com_example_tollgate_tollgate_replay_StartPairs : plainName "com/example/tollgate/tollgate/replay/StartPairs" = true := by first | (simp [plainName, overriddenIn]; done) | decide +kernel
theorem own_ef_sb (m : MethodId) (x0 : Addr) (x1 : Int32) (x2 : Int32) : entryFrame m #[(.ref x0), (.int x1), (.int x2)] 6 = mkF m 0 #[.val (.ref x0), .val (.int x1), .val (.int x2), .unset, .unset, .unset] [] := by first | (simp [entryFrame, mkF, argsToLocals, Value.category]; done) | rfl
def Q_sb (Z : State) (a1 : Addr) (p2 : Int32) (p3 : Int32) (s0 : Int32) (s1 : Int32) (s2 : Int32) (s3 : Int32) (n : Nat) (k : ClassId) (h0 : Heap) (n0 : Nat) (v : Option Value) (h : Heap) (L : List Loc) : Prop := v = some (.int (Int32.ofNat (own_bs (own_v s0 s1 s2 s3) p3 4 0 n))) ∧ Fr n0 L ∧ h = h0
set_option maxRecDepth 65536 in
set_option maxHeartbeats 40000000 in
theorem rm_sb (l : Launch) (Z : State) (a0 : Array Value) (hw : ∀ d ∈ tables_1, d.before a0 Z = true) (ws : List Jvm.Cond) (a1 : Addr) (p2 : Int32) (p3 : Int32) (s0 : Int32) (s1 : Int32) (s2 : Int32) (s3 : Int32) (n : Nat) (k : ClassId) (h0 : Heap) (n0 : Nat) (Z0 : n0 ≤ h0.size) (hn : p2 = Int32.ofNat n) (hn4 : n ≤ 4) (A : Arv Z h0 a1 k .int (8 : Int32) (own_list s0 s1 s2 s3) (.int 0)) :
    MetFree l (⟨"com/example/tollgate/tollgate/replay/StartPairs", "startingBy", "([III)I"⟩ : MethodName) (head1 (Jvm.Cond.code (⟨"com/example/tollgate/tollgate/replay/StartPairs", "startingBy", "([III)I"⟩ : MethodName) prog_152_method_2_code 6 (some .int) :: ws) ({ frames := 0, cells := 0, slots := 0, locals := 0 } : Room)) (fun a U => a = #[(.ref a1), (.int p2), (.int p3)] ∧ Z.Warmed39 U.vm ∧ U.heap = h0) (fun _ _ _ _ _ => True) (fun _ U o U' => ∃ v L, o = .returned v ∧ Q_sb Z a1 p2 p3 s0 s1 s2 s3 n k h0 n0 v U'.heap L ∧ FrameEnd U o U' L ({ frames := 0, cells := 0, slots := 0, locals := 0 } : Room).cells ({ frames := 0, cells := 0, slots := 0, locals := 0 } : Room).slots) := by
  refine MetFree.of_bodySF (plainFor_of_name own_pn_com_example_tollgate_tollgate_replay_StartPairs) hisR ?_
  intro p e s m args below meth c s₁ Bd hml0 hP hK
  obtain ⟨rfl, hZ, hh⟩ := hP
  have hx := Bd.exec
  have hby := Bd.bytes
  have hml : c.maxLocals = 6 := hml0
  have hown : s.vm.findClass "com/example/tollgate/tollgate/replay/StartPairs" = some m.cls := findClass_of_methodNamed Bd.named
  have hnm := (name_of_methodNamed Bd.named Bd.method).1
  have X0 : Stand p l e ({ frames := 0, cells := 0, slots := 0, locals := 0 } : Room) s m #[(.ref a1), (.int p2), (.int p3)] below meth c s₁ [] 0 0 := Stand.of_body Bd
  have e0 : s₁.heap = h0 := by rw [← hh, Bd.state]; rfl
  have N0 := Fr.nil n0
  have pre0 : ∀ t, Steps p.tables e below (s₁.setTop (mkF m 0 #[.val (.ref a1), .val (.int p2), .val (.int p3), .unset, .unset, .unset] [])) t → Steps p.tables e below (s₁.setTop (entryFrame m #[(.ref a1), (.int p2), (.int p3)] 6)) t := fun t k => castTop (own_ef_sb m a1 p2 p3) k
  obtain ⟨cl, Ar, -, S, -, Hs, -⟩ := A
  obtain ⟨r4, s5r, stL⟩ := own_loop a1 p2 p3 cl s0 s1 s2 s3 X0 hx hZ hw hby hml hown e0 Ar S Hs 4 0 n .unset One.u (by omega) (by omega) hn4
  obtain ⟨fs, hr, hrun, hended, hW, hsame⟩ := X0.leave (v := some (.int (Int32.ofNat (own_bs (own_v s0 s1 s2 s3) p3 4 0 n)))) (fun h => by rw [Bd.returns] at h; cases h)
  refine ⟨_, _, pre0 _ ?_, hrun, hended, _, _, rfl, ?_, ⟨_, rfl⟩, hW, hsame.mono (by decide) (by decide)⟩
  · show Steps p.tables e below (s₁.setTop (mkF m 0 #[.val (.ref a1), .val (.int p2), .val (.int p3), .unset, .unset, .unset] [])) _
    refine XS.iconst X0.here hx rfl (hb hby own_dprog_152_2_0) ?_
    show Steps p.tables e below (s₁.setTop (mkF m 1 #[.val (.ref a1), .val (.int p2), .val (.int p3), .unset, .unset, .unset] [(.int (0 : Int32))])) _
    refine XS.istoreN X0.here hx rfl (hb hby own_dprog_152_2_1) rfl (l' := #[.val (.ref a1), .val (.int p2), .val (.int p3), .val (.int (0 : Int32)), .unset, .unset]) rfl ?_
    show Steps p.tables e below (s₁.setTop (mkF m 2 #[.val (.ref a1), .val (.int p2), .val (.int p3), .val (.int (0 : Int32)), .unset, .unset] [])) _
    refine XS.iloadN X0.here hx rfl (hb hby own_dprog_152_2_2) rfl ?_
    show Steps p.tables e below (s₁.setTop (mkF m 3 #[.val (.ref a1), .val (.int p2), .val (.int p3), .val (.int (0 : Int32)), .unset, .unset] [(.int p2)])) _
    refine XS.istore X0.here hx rfl (hb hby own_dprog_152_2_3) rfl (l' := #[.val (.ref a1), .val (.int p2), .val (.int p3), .val (.int (0 : Int32)), .val (.int p2), .unset]) rfl ?_
    show Steps p.tables e below (s₁.setTop (mkF m 5 #[.val (.ref a1), .val (.int p2), .val (.int p3), .val (.int (0 : Int32)), .val (.int p2), .unset] [])) _
    rw [hn] at stL ⊢
    refine stL _ ?_
    show Steps p.tables e below (s₁.setTop (mkF m 44 #[.val (.ref a1), .val (.int (Int32.ofNat n)), .val (.int p3), .val (.int (Int32.ofNat (own_bs (own_v s0 s1 s2 s3) p3 4 0 n))), .val (.int r4), s5r] [])) _
    refine XS.iloadN X0.here hx rfl (hb hby own_dprog_152_2_44) rfl ?_
    show Steps p.tables e below (s₁.setTop (mkF m 45 #[.val (.ref a1), .val (.int (Int32.ofNat n)), .val (.int p3), .val (.int (Int32.ofNat (own_bs (own_v s0 s1 s2 s3) p3 4 0 n))), .val (.int r4), s5r] [(.int (Int32.ofNat (own_bs (own_v s0 s1 s2 s3) p3 4 0 n)))])) _
    exact retOut X0 hx Bd.returns rfl (Or.inl ⟨rfl, Or.inl rfl, _, rfl⟩) (hb hby own_dprog_152_2_45) hr
  · show Q_sb Z a1 p2 p3 s0 s1 s2 s3 n k h0 n0 _ s₁.heap _
    rw [e0]
    exact ⟨rfl, N0, rfl⟩
theorem own_plain (a b c d x : Int32) (n : Nat) (hn : n ≤ 4) (s0 s1 s2 s3 : Int32) (h01 : ¬ s1 < s0) (h12 : ¬ s2 < s1) (h23 : ¬ s3 < s2) :
    (((own_at (if (0 : Int32) < Int32.ofNat n then 1 else 0) s0 x + own_at (if (1 : Int32) < Int32.ofNat n then 1 else 0) s1 x) + own_at (if (2 : Int32) < Int32.ofNat n then 1 else 0) s2 x) + own_at (if (3 : Int32) < Int32.ofNat n then 1 else 0) s3 x) = Int32.ofNat (own_bs (own_v s0 s1 s2 s3) x 4 0 n) := by
  have t01 : x < s0 → x < s1 := fun q => Int32.lt_of_lt_of_le q (Int32.not_lt.mp h01)
  have t12 : x < s1 → x < s2 := fun q => Int32.lt_of_lt_of_le q (Int32.not_lt.mp h12)
  have t23 : x < s2 → x < s3 := fun q => Int32.lt_of_lt_of_le q (Int32.not_lt.mp h23)
  unfold own_at
  by_cases k0 : x < s0
  · have k1 := t01 k0; have k2 := t12 k1; have k3 := t23 k2
    match n, hn with
    | 0, _ => simp [own_bs, own_v, k0, k1, k2, k3]
    | 1, _ => simp [own_bs, own_v, k0, k1, k2, k3]
    | 2, _ => simp [own_bs, own_v, k0, k1, k2, k3]
    | 3, _ => simp [own_bs, own_v, k0, k1, k2, k3]
    | 4, _ => simp [own_bs, own_v, k0, k1, k2, k3]
  · by_cases k1 : x < s1
    · have k2 := t12 k1; have k3 := t23 k2
      match n, hn with
      | 0, _ => simp [own_bs, own_v, k0, k1, k2, k3]
      | 1, _ => simp [own_bs, own_v, k0, k1, k2, k3]
      | 2, _ => simp [own_bs, own_v, k0, k1, k2, k3]
      | 3, _ => simp [own_bs, own_v, k0, k1, k2, k3]
      | 4, _ => simp [own_bs, own_v, k0, k1, k2, k3]
    · by_cases k2 : x < s2
      · have k3 := t23 k2
        match n, hn with
        | 0, _ => simp [own_bs, own_v, k0, k1, k2, k3]
        | 1, _ => simp [own_bs, own_v, k0, k1, k2, k3]
        | 2, _ => simp [own_bs, own_v, k0, k1, k2, k3]
        | 3, _ => simp [own_bs, own_v, k0, k1, k2, k3]
        | 4, _ => simp [own_bs, own_v, k0, k1, k2, k3]
      · by_cases k3 : x < s3
        · match n, hn with
          | 0, _ => simp [own_bs, own_v, k0, k1, k2, k3]
          | 1, _ => simp [own_bs, own_v, k0, k1, k2, k3]
          | 2, _ => simp [own_bs, own_v, k0, k1, k2, k3]
          | 3, _ => simp [own_bs, own_v, k0, k1, k2, k3]
          | 4, _ => simp [own_bs, own_v, k0, k1, k2, k3]
        · match n, hn with
          | 0, _ => simp [own_bs, own_v, k0, k1, k2, k3]
          | 1, _ => simp [own_bs, own_v, k0, k1, k2, k3]
          | 2, _ => simp [own_bs, own_v, k0, k1, k2, k3]
          | 3, _ => simp [own_bs, own_v, k0, k1, k2, k3]
          | 4, _ => simp [own_bs, own_v, k0, k1, k2, k3]
theorem own_minB (a b : Int32) : (own_min a b).toInt ≤ a.toInt ∧ (own_min a b).toInt ≤ b.toInt ∧ ((own_min a b).toInt = a.toInt ∨ (own_min a b).toInt = b.toInt) := by
  unfold own_min
  split <;> rename_i h <;> rw [Int32.lt_iff_toInt_lt] at h <;> omega
theorem own_maxB (a b : Int32) : a.toInt ≤ (own_max a b).toInt ∧ b.toInt ≤ (own_max a b).toInt ∧ ((own_max a b).toInt = a.toInt ∨ (own_max a b).toInt = b.toInt) := by
  unfold own_max
  split <;> rename_i h <;> rw [Int32.lt_iff_toInt_lt] at h <;> omega
theorem own_count (p5 : Int32) : ∃ n, n ≤ 4 ∧ (p5 &&& (7 : Int32)) % (5 : Int32) = Int32.ofNat n := by
  have h1 := c_mask p5 (7 : Int32) 3 (by decide) (by decide)
  have h2 := (c_irem (p5 &&& (7 : Int32)) (5 : Int32) 5 (by decide)).1 (by omega)
  refine ⟨((p5 &&& (7 : Int32)) % (5 : Int32)).toInt.toNat, by omega, ?_⟩
  apply Int32.toInt_inj.mp
  rw [Int32.toInt_ofNat_of_lt (by omega)]
  omega
theorem own_pd0 : parseMethodDescriptor "(II)I" = some ⟨[.int, .int], some .int⟩ := by decide +kernel
theorem own_pd1 : parseMethodDescriptor "(ZII)I" = some ⟨[.boolean, .int, .int], some .int⟩ := by decide +kernel
theorem own_pd2 : parseMethodDescriptor "([III)I" = some ⟨[(.array .int), .int, .int], some .int⟩ := by decide +kernel
theorem own_ef_law (m : MethodId) (x0 : Int32) (x1 : Int32) (x2 : Int32) (x3 : Int32) (x4 : Int32) (x5 : Int32) : entryFrame m #[(.int x0), (.int x1), (.int x2), (.int x3), (.int x4), (.int x5)] maxLocals = mkF m 0 #[.val (.int x0), .val (.int x1), .val (.int x2), .val (.int x3), .val (.int x4), .val (.int x5), .unset, .unset, .unset, .unset, .unset, .unset, .unset, .unset, .unset, .unset, .unset, .unset, .unset] [] := by first | (simp [entryFrame, mkF, argsToLocals, Value.category, maxLocals]; done) | rfl
def Q_law (Z : State) (p1 : Int32) (p2 : Int32) (p3 : Int32) (p4 : Int32) (p5 : Int32) (p6 : Int32) (h0 : Heap) (n0 : Nat) (v : Option Value) (h : Heap) (L : List Loc) : Prop := v = some (.int 1) ∧ Fr n0 L
set_option maxRecDepth 65536 in
set_option maxHeartbeats 40000000 in
theorem rm_law (l : Launch) (Z : State) (a0 : Array Value) (hw : ∀ d ∈ tables_1, d.before a0 Z = true) (ws : List Jvm.Cond) (p1 : Int32) (p2 : Int32) (p3 : Int32) (p4 : Int32) (p5 : Int32) (p6 : Int32) (h0 : Heap) (n0 : Nat) (Z0 : n0 ≤ h0.size)  :
    MetFree l x (head1 (Jvm.Cond.code x code maxLocals ret :: ws) room_1) (fun a U => a = #[(.int p1), (.int p2), (.int p3), (.int p4), (.int p5), (.int p6)] ∧ Z.Warmed39 U.vm ∧ U.heap = h0) (fun _ _ _ _ _ => True) (fun _ U o U' => ∃ v L, o = .returned v ∧ Q_law Z p1 p2 p3 p4 p5 p6 h0 n0 v U'.heap L ∧ FrameEnd U o U' L room_1.cells room_1.slots) := by
  refine MetFree.of_bodySF (plainFor_of_name own_pn_com_example_tollgate_tollgate_replay_StartPairsStartingByPinLaw) hisR ?_
  intro p e s m args below meth c s₁ Bd hml0 hP hK
  obtain ⟨rfl, hZ, hh⟩ := hP
  have hx := Bd.exec
  have hby := Bd.bytes
  have hml : c.maxLocals = 19 := hml0
  have hown : s.vm.findClass "com/example/tollgate/tollgate/replay/StartPairsStartingByPinLaw" = some m.cls := findClass_of_methodNamed Bd.named
  have hnm := (name_of_methodNamed Bd.named Bd.method).1
  have X0 : Stand p l e room_1 s m #[(.int p1), (.int p2), (.int p3), (.int p4), (.int p5), (.int p6)] below meth c s₁ [] 0 0 := Stand.of_body Bd
  have e0 : s₁.heap = h0 := by rw [← hh, Bd.state]; rfl
  have N0 := Fr.nil n0
  have pre0 : ∀ t, Steps p.tables e below (s₁.setTop (mkF m 0 #[.val (.int p1), .val (.int p2), .val (.int p3), .val (.int p4), .val (.int p5), .val (.int p6), .unset, .unset, .unset, .unset, .unset, .unset, .unset, .unset, .unset, .unset, .unset, .unset, .unset] [])) t → Steps p.tables e below (s₁.setTop (entryFrame m #[(.int p1), (.int p2), (.int p3), (.int p4), (.int p5), (.int p6)] maxLocals)) t := fun t k => castTop (own_ef_law m p1 p2 p3 p4 p5 p6) k
  obtain ⟨_, _, ⟨T1, L1, k1, n1⟩, -, X1, ⟨Lc1, hQ1, l1, y1, z1⟩, st1⟩ := Jvm.LawKit.callS X0 hx (y := (⟨"java/lang/Math", "min", "(II)I"⟩ : MethodName)) hown (mvT hZ (hw _ (List.mem_of_getElem? (i := 0) rfl))) (mvT hZ (hw _ (List.mem_of_getElem? (i := 1) rfl))) (mvT hZ (hw _ (List.mem_of_getElem? (i := 2) rfl))) (mvT hZ (hw _ (List.mem_of_getElem? (i := 3) rfl))) (by decide) (backOf (W := 0) (rm_min l Z a0 hw [] p1 p2 h0 n0 Z0) hZ (hw _ (List.mem_of_getElem? (i := 3) rfl)) (hw _ (List.mem_of_getElem? (i := 2) rfl)) (by decide) (by decide)) (g := (mkF m 2 #[.val (.int p1), .val (.int p2), .val (.int p3), .val (.int p4), .val (.int p5), .val (.int p6), .unset, .unset, .unset, .unset, .unset, .unset, .unset, .unset, .unset, .unset, .unset, .unset, .unset] [(.int p2), (.int p1)])) rfl (by rw [hml]; rfl) (argsL := [(.int p1), (.int p2)]) (rest := []) (lenOf own_pd0 rfl) rfl (by show 2 * 0 + _ ≤ _; exact Nat.le_of_eq rfl) (hb hby at_2) (fun _ _ => ⟨rfl, e0, (by decide : 0 + 0 ≤ _), (by decide : 0 + 0 ≤ _)⟩)
  dsimp only [Pt.U, Pt.locs, Pt.cells, Pt.slots] at X1 l1 y1 z1 st1 hQ1
  rw [l1, y1, z1] at X1
  obtain ⟨rfl, Nq1, e1⟩ := hQ1
  have N1 := Fr.app N0 Nq1
  obtain ⟨lo1, h_lo1⟩ : ∃ z : Int32, z = (own_min p1 p2) := ⟨_, rfl⟩
  have h2_lo1 : (own_min p1 p2) = lo1 := h_lo1.symm
  obtain ⟨_, _, ⟨T2, L2, k2, n2⟩, -, X2, ⟨Lc2, hQ2, l2, y2, z2⟩, st2⟩ := Jvm.LawKit.callS X1 hx (y := (⟨"java/lang/Math", "max", "(II)I"⟩ : MethodName)) hown (mvT hZ (hw _ (List.mem_of_getElem? (i := 4) rfl))) (mvT hZ (hw _ (List.mem_of_getElem? (i := 5) rfl))) (mvT hZ (hw _ (List.mem_of_getElem? (i := 2) rfl))) (mvT hZ (hw _ (List.mem_of_getElem? (i := 6) rfl))) (by decide) (backOf (W := 0) (rm_max l Z a0 hw [] p1 p2 h0 n0 Z0) hZ (hw _ (List.mem_of_getElem? (i := 6) rfl)) (hw _ (List.mem_of_getElem? (i := 2) rfl)) (by decide) (by decide)) (g := (mkF m 9 #[.val (.int p1), .val (.int p2), .val (.int p3), .val (.int p4), .val (.int p5), .val (.int p6), .val (.int lo1), .unset, .unset, .unset, .unset, .unset, .unset, .unset, .unset, .unset, .unset, .unset, .unset] [(.int p2), (.int p1)])) rfl (by rw [hml]; rfl) (argsL := [(.int p1), (.int p2)]) (rest := []) (lenOf own_pd0 rfl) rfl (by show 2 * 0 + _ ≤ _; exact Nat.le_of_eq rfl) (hb hby at_9) (fun _ _ => ⟨rfl, e1, (by decide : 0 + 0 ≤ _), (by decide : 0 + 0 ≤ _)⟩)
  dsimp only [Pt.U, Pt.locs, Pt.cells, Pt.slots] at X2 l2 y2 z2 st2 hQ2
  rw [l2, y2, z2] at X2
  obtain ⟨rfl, Nq2, e2⟩ := hQ2
  have N2 := Fr.app N1 Nq2
  obtain ⟨hi1, h_hi1⟩ : ∃ z : Int32, z = (own_max p1 p2) := ⟨_, rfl⟩
  have h2_hi1 : (own_max p1 p2) = hi1 := h_hi1.symm
  obtain ⟨_, _, ⟨T3, L3, k3, n3⟩, -, X3, ⟨Lc3, hQ3, l3, y3, z3⟩, st3⟩ := Jvm.LawKit.callS X2 hx (y := (⟨"java/lang/Math", "min", "(II)I"⟩ : MethodName)) hown (mvT hZ (hw _ (List.mem_of_getElem? (i := 0) rfl))) (mvT hZ (hw _ (List.mem_of_getElem? (i := 1) rfl))) (mvT hZ (hw _ (List.mem_of_getElem? (i := 2) rfl))) (mvT hZ (hw _ (List.mem_of_getElem? (i := 3) rfl))) (by decide) (backOf (W := 0) (rm_min l Z a0 hw [] p3 p4 h0 n0 Z0) hZ (hw _ (List.mem_of_getElem? (i := 3) rfl)) (hw _ (List.mem_of_getElem? (i := 2) rfl)) (by decide) (by decide)) (g := (mkF m 16 #[.val (.int p1), .val (.int p2), .val (.int p3), .val (.int p4), .val (.int p5), .val (.int p6), .val (.int lo1), .val (.int hi1), .unset, .unset, .unset, .unset, .unset, .unset, .unset, .unset, .unset, .unset, .unset] [(.int p4), (.int p3)])) rfl (by rw [hml]; rfl) (argsL := [(.int p3), (.int p4)]) (rest := []) (lenOf own_pd0 rfl) rfl (by show 2 * 0 + _ ≤ _; exact Nat.le_of_eq rfl) (hb hby at_16) (fun _ _ => ⟨rfl, e2, (by decide : 0 + 0 ≤ _), (by decide : 0 + 0 ≤ _)⟩)
  dsimp only [Pt.U, Pt.locs, Pt.cells, Pt.slots] at X3 l3 y3 z3 st3 hQ3
  rw [l3, y3, z3] at X3
  obtain ⟨rfl, Nq3, e3⟩ := hQ3
  have N3 := Fr.app N2 Nq3
  obtain ⟨lo2, h_lo2⟩ : ∃ z : Int32, z = (own_min p3 p4) := ⟨_, rfl⟩
  have h2_lo2 : (own_min p3 p4) = lo2 := h_lo2.symm
  obtain ⟨_, _, ⟨T4, L4, k4, n4⟩, -, X4, ⟨Lc4, hQ4, l4, y4, z4⟩, st4⟩ := Jvm.LawKit.callS X3 hx (y := (⟨"java/lang/Math", "max", "(II)I"⟩ : MethodName)) hown (mvT hZ (hw _ (List.mem_of_getElem? (i := 4) rfl))) (mvT hZ (hw _ (List.mem_of_getElem? (i := 5) rfl))) (mvT hZ (hw _ (List.mem_of_getElem? (i := 2) rfl))) (mvT hZ (hw _ (List.mem_of_getElem? (i := 6) rfl))) (by decide) (backOf (W := 0) (rm_max l Z a0 hw [] p3 p4 h0 n0 Z0) hZ (hw _ (List.mem_of_getElem? (i := 6) rfl)) (hw _ (List.mem_of_getElem? (i := 2) rfl)) (by decide) (by decide)) (g := (mkF m 23 #[.val (.int p1), .val (.int p2), .val (.int p3), .val (.int p4), .val (.int p5), .val (.int p6), .val (.int lo1), .val (.int hi1), .val (.int lo2), .unset, .unset, .unset, .unset, .unset, .unset, .unset, .unset, .unset, .unset] [(.int p4), (.int p3)])) rfl (by rw [hml]; rfl) (argsL := [(.int p3), (.int p4)]) (rest := []) (lenOf own_pd0 rfl) rfl (by show 2 * 0 + _ ≤ _; exact Nat.le_of_eq rfl) (hb hby at_23) (fun _ _ => ⟨rfl, e3, (by decide : 0 + 0 ≤ _), (by decide : 0 + 0 ≤ _)⟩)
  dsimp only [Pt.U, Pt.locs, Pt.cells, Pt.slots] at X4 l4 y4 z4 st4 hQ4
  rw [l4, y4, z4] at X4
  obtain ⟨rfl, Nq4, e4⟩ := hQ4
  have N4 := Fr.app N3 Nq4
  obtain ⟨hi2, h_hi2⟩ : ∃ z : Int32, z = (own_max p3 p4) := ⟨_, rfl⟩
  have h2_hi2 : (own_max p3 p4) = hi2 := h_hi2.symm
  obtain ⟨_, _, ⟨T5, L5, k5, n5⟩, -, X5, ⟨Lc5, hQ5, l5, y5, z5⟩, st5⟩ := Jvm.LawKit.callS X4 hx (y := (⟨"java/lang/Math", "min", "(II)I"⟩ : MethodName)) hown (mvT hZ (hw _ (List.mem_of_getElem? (i := 0) rfl))) (mvT hZ (hw _ (List.mem_of_getElem? (i := 1) rfl))) (mvT hZ (hw _ (List.mem_of_getElem? (i := 2) rfl))) (mvT hZ (hw _ (List.mem_of_getElem? (i := 3) rfl))) (by decide) (backOf (W := 0) (rm_min l Z a0 hw [] lo1 lo2 h0 n0 Z0) hZ (hw _ (List.mem_of_getElem? (i := 3) rfl)) (hw _ (List.mem_of_getElem? (i := 2) rfl)) (by decide) (by decide)) (g := (mkF m 32 #[.val (.int p1), .val (.int p2), .val (.int p3), .val (.int p4), .val (.int p5), .val (.int p6), .val (.int lo1), .val (.int hi1), .val (.int lo2), .val (.int hi2), .unset, .unset, .unset, .unset, .unset, .unset, .unset, .unset, .unset] [(.int lo2), (.int lo1)])) rfl (by rw [hml]; rfl) (argsL := [(.int lo1), (.int lo2)]) (rest := []) (lenOf own_pd0 rfl) rfl (by show 2 * 0 + _ ≤ _; exact Nat.le_of_eq rfl) (hb hby at_32) (fun _ _ => ⟨rfl, e4, (by decide : 0 + 0 ≤ _), (by decide : 0 + 0 ≤ _)⟩)
  dsimp only [Pt.U, Pt.locs, Pt.cells, Pt.slots] at X5 l5 y5 z5 st5 hQ5
  rw [l5, y5, z5] at X5
  obtain ⟨rfl, Nq5, e5⟩ := hQ5
  have N5 := Fr.app N4 Nq5
  obtain ⟨s0, h_s0⟩ : ∃ z : Int32, z = (own_min lo1 lo2) := ⟨_, rfl⟩
  have h2_s0 : (own_min lo1 lo2) = s0 := h_s0.symm
  obtain ⟨_, _, ⟨T6, L6, k6, n6⟩, -, X6, ⟨Lc6, hQ6, l6, y6, z6⟩, st6⟩ := Jvm.LawKit.callS X5 hx (y := (⟨"java/lang/Math", "max", "(II)I"⟩ : MethodName)) hown (mvT hZ (hw _ (List.mem_of_getElem? (i := 4) rfl))) (mvT hZ (hw _ (List.mem_of_getElem? (i := 5) rfl))) (mvT hZ (hw _ (List.mem_of_getElem? (i := 2) rfl))) (mvT hZ (hw _ (List.mem_of_getElem? (i := 6) rfl))) (by decide) (backOf (W := 0) (rm_max l Z a0 hw [] lo1 lo2 h0 n0 Z0) hZ (hw _ (List.mem_of_getElem? (i := 6) rfl)) (hw _ (List.mem_of_getElem? (i := 2) rfl)) (by decide) (by decide)) (g := (mkF m 41 #[.val (.int p1), .val (.int p2), .val (.int p3), .val (.int p4), .val (.int p5), .val (.int p6), .val (.int lo1), .val (.int hi1), .val (.int lo2), .val (.int hi2), .val (.int s0), .unset, .unset, .unset, .unset, .unset, .unset, .unset, .unset] [(.int lo2), (.int lo1)])) rfl (by rw [hml]; rfl) (argsL := [(.int lo1), (.int lo2)]) (rest := []) (lenOf own_pd0 rfl) rfl (by show 2 * 0 + _ ≤ _; exact Nat.le_of_eq rfl) (hb hby at_41) (fun _ _ => ⟨rfl, e5, (by decide : 0 + 0 ≤ _), (by decide : 0 + 0 ≤ _)⟩)
  dsimp only [Pt.U, Pt.locs, Pt.cells, Pt.slots] at X6 l6 y6 z6 st6 hQ6
  rw [l6, y6, z6] at X6
  obtain ⟨rfl, Nq6, e6⟩ := hQ6
  have N6 := Fr.app N5 Nq6
  obtain ⟨t1, h_t1⟩ : ∃ z : Int32, z = (own_max lo1 lo2) := ⟨_, rfl⟩
  have h2_t1 : (own_max lo1 lo2) = t1 := h_t1.symm
  obtain ⟨_, _, ⟨T7, L7, k7, n7⟩, -, X7, ⟨Lc7, hQ7, l7, y7, z7⟩, st7⟩ := Jvm.LawKit.callS X6 hx (y := (⟨"java/lang/Math", "min", "(II)I"⟩ : MethodName)) hown (mvT hZ (hw _ (List.mem_of_getElem? (i := 0) rfl))) (mvT hZ (hw _ (List.mem_of_getElem? (i := 1) rfl))) (mvT hZ (hw _ (List.mem_of_getElem? (i := 2) rfl))) (mvT hZ (hw _ (List.mem_of_getElem? (i := 3) rfl))) (by decide) (backOf (W := 0) (rm_min l Z a0 hw [] hi1 hi2 h0 n0 Z0) hZ (hw _ (List.mem_of_getElem? (i := 3) rfl)) (hw _ (List.mem_of_getElem? (i := 2) rfl)) (by decide) (by decide)) (g := (mkF m 50 #[.val (.int p1), .val (.int p2), .val (.int p3), .val (.int p4), .val (.int p5), .val (.int p6), .val (.int lo1), .val (.int hi1), .val (.int lo2), .val (.int hi2), .val (.int s0), .val (.int t1), .unset, .unset, .unset, .unset, .unset, .unset, .unset] [(.int hi2), (.int hi1)])) rfl (by rw [hml]; rfl) (argsL := [(.int hi1), (.int hi2)]) (rest := []) (lenOf own_pd0 rfl) rfl (by show 2 * 0 + _ ≤ _; exact Nat.le_of_eq rfl) (hb hby at_50) (fun _ _ => ⟨rfl, e6, (by decide : 0 + 0 ≤ _), (by decide : 0 + 0 ≤ _)⟩)
  dsimp only [Pt.U, Pt.locs, Pt.cells, Pt.slots] at X7 l7 y7 z7 st7 hQ7
  rw [l7, y7, z7] at X7
  obtain ⟨rfl, Nq7, e7⟩ := hQ7
  have N7 := Fr.app N6 Nq7
  obtain ⟨t2, h_t2⟩ : ∃ z : Int32, z = (own_min hi1 hi2) := ⟨_, rfl⟩
  have h2_t2 : (own_min hi1 hi2) = t2 := h_t2.symm
  obtain ⟨_, _, ⟨T8, L8, k8, n8⟩, -, X8, ⟨Lc8, hQ8, l8, y8, z8⟩, st8⟩ := Jvm.LawKit.callS X7 hx (y := (⟨"java/lang/Math", "max", "(II)I"⟩ : MethodName)) hown (mvT hZ (hw _ (List.mem_of_getElem? (i := 4) rfl))) (mvT hZ (hw _ (List.mem_of_getElem? (i := 5) rfl))) (mvT hZ (hw _ (List.mem_of_getElem? (i := 2) rfl))) (mvT hZ (hw _ (List.mem_of_getElem? (i := 6) rfl))) (by decide) (backOf (W := 0) (rm_max l Z a0 hw [] hi1 hi2 h0 n0 Z0) hZ (hw _ (List.mem_of_getElem? (i := 6) rfl)) (hw _ (List.mem_of_getElem? (i := 2) rfl)) (by decide) (by decide)) (g := (mkF m 59 #[.val (.int p1), .val (.int p2), .val (.int p3), .val (.int p4), .val (.int p5), .val (.int p6), .val (.int lo1), .val (.int hi1), .val (.int lo2), .val (.int hi2), .val (.int s0), .val (.int t1), .val (.int t2), .unset, .unset, .unset, .unset, .unset, .unset] [(.int hi2), (.int hi1)])) rfl (by rw [hml]; rfl) (argsL := [(.int hi1), (.int hi2)]) (rest := []) (lenOf own_pd0 rfl) rfl (by show 2 * 0 + _ ≤ _; exact Nat.le_of_eq rfl) (hb hby at_59) (fun _ _ => ⟨rfl, e7, (by decide : 0 + 0 ≤ _), (by decide : 0 + 0 ≤ _)⟩)
  dsimp only [Pt.U, Pt.locs, Pt.cells, Pt.slots] at X8 l8 y8 z8 st8 hQ8
  rw [l8, y8, z8] at X8
  obtain ⟨rfl, Nq8, e8⟩ := hQ8
  have N8 := Fr.app N7 Nq8
  obtain ⟨s3, h_s3⟩ : ∃ z : Int32, z = (own_max hi1 hi2) := ⟨_, rfl⟩
  have h2_s3 : (own_max hi1 hi2) = s3 := h_s3.symm
  obtain ⟨_, _, ⟨T9, L9, k9, n9⟩, -, X9, ⟨Lc9, hQ9, l9, y9, z9⟩, st9⟩ := Jvm.LawKit.callS X8 hx (y := (⟨"java/lang/Math", "min", "(II)I"⟩ : MethodName)) hown (mvT hZ (hw _ (List.mem_of_getElem? (i := 0) rfl))) (mvT hZ (hw _ (List.mem_of_getElem? (i := 1) rfl))) (mvT hZ (hw _ (List.mem_of_getElem? (i := 2) rfl))) (mvT hZ (hw _ (List.mem_of_getElem? (i := 3) rfl))) (by decide) (backOf (W := 0) (rm_min l Z a0 hw [] t1 t2 h0 n0 Z0) hZ (hw _ (List.mem_of_getElem? (i := 3) rfl)) (hw _ (List.mem_of_getElem? (i := 2) rfl)) (by decide) (by decide)) (g := (mkF m 68 #[.val (.int p1), .val (.int p2), .val (.int p3), .val (.int p4), .val (.int p5), .val (.int p6), .val (.int lo1), .val (.int hi1), .val (.int lo2), .val (.int hi2), .val (.int s0), .val (.int t1), .val (.int t2), .val (.int s3), .unset, .unset, .unset, .unset, .unset] [(.int t2), (.int t1)])) rfl (by rw [hml]; rfl) (argsL := [(.int t1), (.int t2)]) (rest := []) (lenOf own_pd0 rfl) rfl (by show 2 * 0 + _ ≤ _; exact Nat.le_of_eq rfl) (hb hby at_68) (fun _ _ => ⟨rfl, e8, (by decide : 0 + 0 ≤ _), (by decide : 0 + 0 ≤ _)⟩)
  dsimp only [Pt.U, Pt.locs, Pt.cells, Pt.slots] at X9 l9 y9 z9 st9 hQ9
  rw [l9, y9, z9] at X9
  obtain ⟨rfl, Nq9, e9⟩ := hQ9
  have N9 := Fr.app N8 Nq9
  obtain ⟨s1, h_s1⟩ : ∃ z : Int32, z = (own_min t1 t2) := ⟨_, rfl⟩
  have h2_s1 : (own_min t1 t2) = s1 := h_s1.symm
  obtain ⟨_, _, ⟨T10, L10, k10, n10⟩, -, X10, ⟨Lc10, hQ10, l10, y10, z10⟩, st10⟩ := Jvm.LawKit.callS X9 hx (y := (⟨"java/lang/Math", "max", "(II)I"⟩ : MethodName)) hown (mvT hZ (hw _ (List.mem_of_getElem? (i := 4) rfl))) (mvT hZ (hw _ (List.mem_of_getElem? (i := 5) rfl))) (mvT hZ (hw _ (List.mem_of_getElem? (i := 2) rfl))) (mvT hZ (hw _ (List.mem_of_getElem? (i := 6) rfl))) (by decide) (backOf (W := 0) (rm_max l Z a0 hw [] t1 t2 h0 n0 Z0) hZ (hw _ (List.mem_of_getElem? (i := 6) rfl)) (hw _ (List.mem_of_getElem? (i := 2) rfl)) (by decide) (by decide)) (g := (mkF m 77 #[.val (.int p1), .val (.int p2), .val (.int p3), .val (.int p4), .val (.int p5), .val (.int p6), .val (.int lo1), .val (.int hi1), .val (.int lo2), .val (.int hi2), .val (.int s0), .val (.int t1), .val (.int t2), .val (.int s3), .val (.int s1), .unset, .unset, .unset, .unset] [(.int t2), (.int t1)])) rfl (by rw [hml]; rfl) (argsL := [(.int t1), (.int t2)]) (rest := []) (lenOf own_pd0 rfl) rfl (by show 2 * 0 + _ ≤ _; exact Nat.le_of_eq rfl) (hb hby at_77) (fun _ _ => ⟨rfl, e9, (by decide : 0 + 0 ≤ _), (by decide : 0 + 0 ≤ _)⟩)
  dsimp only [Pt.U, Pt.locs, Pt.cells, Pt.slots] at X10 l10 y10 z10 st10 hQ10
  rw [l10, y10, z10] at X10
  obtain ⟨rfl, Nq10, e10⟩ := hQ10
  have N10 := Fr.app N9 Nq10
  obtain ⟨s2, h_s2⟩ : ∃ z : Int32, z = (own_max t1 t2) := ⟨_, rfl⟩
  have h2_s2 : (own_max t1 t2) = s2 := h_s2.symm
  have f1 : ¬ s1 < s0 ∧ ¬ s2 < s1 ∧ ¬ s3 < s2 := by
    have g1 := (own_minB p1 p2).1; have g2 := (own_maxB p1 p2).1; have g3 := (own_minB p3 p4).1; have g4 := (own_maxB p3 p4).1
    have g5 := own_minB lo1 lo2; have g6 := own_maxB lo1 lo2; have g7 := own_minB hi1 hi2; have g8 := own_maxB hi1 hi2; have g9 := own_minB t1 t2; have g10 := own_maxB t1 t2
    rw [h2_lo1] at g1; rw [h2_hi1] at g2; rw [h2_lo2] at g3; rw [h2_hi2] at g4; rw [h2_s0] at g5; rw [h2_t1] at g6; rw [h2_t2] at g7; rw [h2_s3] at g8; rw [h2_s1] at g9; rw [h2_s2] at g10
    obtain ⟨g51, g52, -⟩ := g5
    obtain ⟨-, -, g63⟩ := g6
    obtain ⟨-, -, g73⟩ := g7
    obtain ⟨g81, g82, -⟩ := g8
    simp only [Int32.lt_iff_toInt_lt]
    refine ⟨?_, ?_, ?_⟩
    · have g93 := g9.2.2; omega
    · omega
    · have g103 := g10.2.2; omega
  obtain ⟨ct, h_ct⟩ : ∃ z : Int32, z = ((p5 &&& (7 : Int32)) % (5 : Int32)) := ⟨_, rfl⟩
  have h2_ct : ((p5 &&& (7 : Int32)) % (5 : Int32)) = ct := h_ct.symm
  obtain ⟨n, hn4, hn⟩ := own_count p5
  rw [h2_ct] at hn
  obtain ⟨T11, h11, k11, X11, e11, E11, A11, st11⟩ := newP X10 hx hZ (hw _ (List.mem_of_getElem? (i := 7) rfl)) e10 (g := (mkF m 93 #[.val (.int p1), .val (.int p2), .val (.int p3), .val (.int p4), .val (.int p5), .val (.int p6), .val (.int lo1), .val (.int hi1), .val (.int lo2), .val (.int hi2), .val (.int s0), .val (.int t1), .val (.int t2), .val (.int s3), .val (.int s1), .val (.int s2), .val (.int ct), .unset, .unset] [(.int (8 : Int32))])) rfl (hb hby at_93) rfl (by decide) (cap := 8) (by decide) (by decide) (by decide) (by decide)
  obtain ⟨b, g11⟩ : ∃ z, z = h0.size := ⟨_, rfl⟩
  rw [← g11] at A11 st11
  have gn_b : n0 ≤ b := Nat.le_trans Z0 (Nat.le_of_eq g11.symm)
  have sz11 : n0 ≤ h11.size := Nat.le_trans Z0 E11.1
  have V0 := Arv.new A11 (by decide)
  have V1 : Arv Z h11 b k11 .int (8 : Int32) (List.replicate 8 (.int 0)) (.int 0) := V0.pad (pad_rep [] (.int 0) 8)
  obtain ⟨cl0, Ar0, ck0, Sz0, Ng0, Hs0, Ft0⟩ := V1
  obtain ⟨T12, h12, X12, e12, W12, st12⟩ := stI X11 hx hZ e11 Ar0 (j := (0 : Int32)) (inb_of Sz0 (by decide)) (g := (mkF m 102 #[.val (.int p1), .val (.int p2), .val (.int p3), .val (.int p4), .val (.int p5), .val (.int p6), .val (.int lo1), .val (.int hi1), .val (.int lo2), .val (.int hi2), .val (.int s0), .val (.int t1), .val (.int t2), .val (.int s3), .val (.int s1), .val (.int s2), .val (.int ct), .val (.ref b), .unset] [(.int s0), (.int (0 : Int32)), (.ref b)])) rfl rfl (hb hby at_102)
  have N12 := Fr.snoc X12 N10 gn_b
  have sz12 : n0 ≤ h12.size := Nat.le_trans sz11 (Keep.of_wr W12).1
  have V2_ : Arv Z h12 b k11 .int (8 : Int32) [(.int s0), (.int (0 : Int32)), (.int (0 : Int32)), (.int (0 : Int32)), (.int (0 : Int32)), (.int (0 : Int32)), (.int (0 : Int32)), (.int (0 : Int32))] (.int 0) := Arv.set Ar0 ck0 Sz0 Ng0 Hs0 Ft0 rfl W12 0 (by decide) (by simp)
  obtain ⟨cl1, Ar1, ck1, Sz1, Ng1, Hs1, Ft1⟩ := V2_
  obtain ⟨T13, h13, X13, e13, W13, st13⟩ := stI X12 hx hZ e12 Ar1 (j := (1 : Int32)) (inb_of Sz1 (by decide)) (g := (mkF m 108 #[.val (.int p1), .val (.int p2), .val (.int p3), .val (.int p4), .val (.int p5), .val (.int p6), .val (.int lo1), .val (.int hi1), .val (.int lo2), .val (.int hi2), .val (.int s0), .val (.int t1), .val (.int t2), .val (.int s3), .val (.int s1), .val (.int s2), .val (.int ct), .val (.ref b), .unset] [(.int s3), (.int (1 : Int32)), (.ref b)])) rfl rfl (hb hby at_108)
  have N13 := Fr.snoc X13 N12 gn_b
  have sz13 : n0 ≤ h13.size := Nat.le_trans sz12 (Keep.of_wr W13).1
  have V3_ : Arv Z h13 b k11 .int (8 : Int32) [(.int s0), (.int s3), (.int (0 : Int32)), (.int (0 : Int32)), (.int (0 : Int32)), (.int (0 : Int32)), (.int (0 : Int32)), (.int (0 : Int32))] (.int 0) := Arv.set Ar1 ck1 Sz1 Ng1 Hs1 Ft1 rfl W13 1 (by decide) (by simp)
  obtain ⟨cl2, Ar2, ck2, Sz2, Ng2, Hs2, Ft2⟩ := V3_
  obtain ⟨T14, h14, X14, e14, W14, st14⟩ := stI X13 hx hZ e13 Ar2 (j := (2 : Int32)) (inb_of Sz2 (by decide)) (g := (mkF m 114 #[.val (.int p1), .val (.int p2), .val (.int p3), .val (.int p4), .val (.int p5), .val (.int p6), .val (.int lo1), .val (.int hi1), .val (.int lo2), .val (.int hi2), .val (.int s0), .val (.int t1), .val (.int t2), .val (.int s3), .val (.int s1), .val (.int s2), .val (.int ct), .val (.ref b), .unset] [(.int s1), (.int (2 : Int32)), (.ref b)])) rfl rfl (hb hby at_114)
  have N14 := Fr.snoc X14 N13 gn_b
  have sz14 : n0 ≤ h14.size := Nat.le_trans sz13 (Keep.of_wr W14).1
  have V4_ : Arv Z h14 b k11 .int (8 : Int32) [(.int s0), (.int s3), (.int s1), (.int (0 : Int32)), (.int (0 : Int32)), (.int (0 : Int32)), (.int (0 : Int32)), (.int (0 : Int32))] (.int 0) := Arv.set Ar2 ck2 Sz2 Ng2 Hs2 Ft2 rfl W14 2 (by decide) (by simp)
  obtain ⟨cl3, Ar3, ck3, Sz3, Ng3, Hs3, Ft3⟩ := V4_
  obtain ⟨T15, h15, X15, e15, W15, st15⟩ := stI X14 hx hZ e14 Ar3 (j := (3 : Int32)) (inb_of Sz3 (by decide)) (g := (mkF m 120 #[.val (.int p1), .val (.int p2), .val (.int p3), .val (.int p4), .val (.int p5), .val (.int p6), .val (.int lo1), .val (.int hi1), .val (.int lo2), .val (.int hi2), .val (.int s0), .val (.int t1), .val (.int t2), .val (.int s3), .val (.int s1), .val (.int s2), .val (.int ct), .val (.ref b), .unset] [(.int s2), (.int (3 : Int32)), (.ref b)])) rfl rfl (hb hby at_120)
  have N15 := Fr.snoc X15 N14 gn_b
  have sz15 : n0 ≤ h15.size := Nat.le_trans sz14 (Keep.of_wr W15).1
  have V5_ : Arv Z h15 b k11 .int (8 : Int32) [(.int s0), (.int s3), (.int s1), (.int s2), (.int (0 : Int32)), (.int (0 : Int32)), (.int (0 : Int32)), (.int (0 : Int32))] (.int 0) := Arv.set Ar3 ck3 Sz3 Ng3 Hs3 Ft3 rfl W15 3 (by decide) (by simp)
  obtain ⟨cl4, Ar4, ck4, Sz4, Ng4, Hs4, Ft4⟩ := V5_
  obtain ⟨T16, h16, X16, e16, W16, st16⟩ := stI X15 hx hZ e15 Ar4 (j := (4 : Int32)) (inb_of Sz4 (by decide)) (g := (mkF m 126 #[.val (.int p1), .val (.int p2), .val (.int p3), .val (.int p4), .val (.int p5), .val (.int p6), .val (.int lo1), .val (.int hi1), .val (.int lo2), .val (.int hi2), .val (.int s0), .val (.int t1), .val (.int t2), .val (.int s3), .val (.int s1), .val (.int s2), .val (.int ct), .val (.ref b), .unset] [(.int s2), (.int (4 : Int32)), (.ref b)])) rfl rfl (hb hby at_126)
  have N16 := Fr.snoc X16 N15 gn_b
  have sz16 : n0 ≤ h16.size := Nat.le_trans sz15 (Keep.of_wr W16).1
  have V6_ : Arv Z h16 b k11 .int (8 : Int32) [(.int s0), (.int s3), (.int s1), (.int s2), (.int s2), (.int (0 : Int32)), (.int (0 : Int32)), (.int (0 : Int32))] (.int 0) := Arv.set Ar4 ck4 Sz4 Ng4 Hs4 Ft4 rfl W16 4 (by decide) (by simp)
  obtain ⟨cl5, Ar5, ck5, Sz5, Ng5, Hs5, Ft5⟩ := V6_
  obtain ⟨T17, h17, X17, e17, W17, st17⟩ := stI X16 hx hZ e16 Ar5 (j := (5 : Int32)) (inb_of Sz5 (by decide)) (g := (mkF m 132 #[.val (.int p1), .val (.int p2), .val (.int p3), .val (.int p4), .val (.int p5), .val (.int p6), .val (.int lo1), .val (.int hi1), .val (.int lo2), .val (.int hi2), .val (.int s0), .val (.int t1), .val (.int t2), .val (.int s3), .val (.int s1), .val (.int s2), .val (.int ct), .val (.ref b), .unset] [(.int s1), (.int (5 : Int32)), (.ref b)])) rfl rfl (hb hby at_132)
  have N17 := Fr.snoc X17 N16 gn_b
  have sz17 : n0 ≤ h17.size := Nat.le_trans sz16 (Keep.of_wr W17).1
  have V7_ : Arv Z h17 b k11 .int (8 : Int32) [(.int s0), (.int s3), (.int s1), (.int s2), (.int s2), (.int s1), (.int (0 : Int32)), (.int (0 : Int32))] (.int 0) := Arv.set Ar5 ck5 Sz5 Ng5 Hs5 Ft5 rfl W17 5 (by decide) (by simp)
  obtain ⟨cl6, Ar6, ck6, Sz6, Ng6, Hs6, Ft6⟩ := V7_
  obtain ⟨T18, h18, X18, e18, W18, st18⟩ := stI X17 hx hZ e17 Ar6 (j := (6 : Int32)) (inb_of Sz6 (by decide)) (g := (mkF m 139 #[.val (.int p1), .val (.int p2), .val (.int p3), .val (.int p4), .val (.int p5), .val (.int p6), .val (.int lo1), .val (.int hi1), .val (.int lo2), .val (.int hi2), .val (.int s0), .val (.int t1), .val (.int t2), .val (.int s3), .val (.int s1), .val (.int s2), .val (.int ct), .val (.ref b), .unset] [(.int s3), (.int (6 : Int32)), (.ref b)])) rfl rfl (hb hby at_139)
  have N18 := Fr.snoc X18 N17 gn_b
  have sz18 : n0 ≤ h18.size := Nat.le_trans sz17 (Keep.of_wr W18).1
  have V8_ : Arv Z h18 b k11 .int (8 : Int32) [(.int s0), (.int s3), (.int s1), (.int s2), (.int s2), (.int s1), (.int s3), (.int (0 : Int32))] (.int 0) := Arv.set Ar6 ck6 Sz6 Ng6 Hs6 Ft6 rfl W18 6 (by decide) (by simp)
  obtain ⟨cl7, Ar7, ck7, Sz7, Ng7, Hs7, Ft7⟩ := V8_
  obtain ⟨T19, h19, X19, e19, W19, st19⟩ := stI X18 hx hZ e18 Ar7 (j := (7 : Int32)) (inb_of Sz7 (by decide)) (g := (mkF m 146 #[.val (.int p1), .val (.int p2), .val (.int p3), .val (.int p4), .val (.int p5), .val (.int p6), .val (.int lo1), .val (.int hi1), .val (.int lo2), .val (.int hi2), .val (.int s0), .val (.int t1), .val (.int t2), .val (.int s3), .val (.int s1), .val (.int s2), .val (.int ct), .val (.ref b), .unset] [(.int s0), (.int (7 : Int32)), (.ref b)])) rfl rfl (hb hby at_146)
  have N19 := Fr.snoc X19 N18 gn_b
  have sz19 : n0 ≤ h19.size := Nat.le_trans sz18 (Keep.of_wr W19).1
  have V9_ : Arv Z h19 b k11 .int (8 : Int32) [(.int s0), (.int s3), (.int s1), (.int s2), (.int s2), (.int s1), (.int s3), (.int s0)] (.int 0) := Arv.set Ar7 ck7 Sz7 Ng7 Hs7 Ft7 rfl W19 7 (by decide) (by simp)
  obtain ⟨c0, h_c0⟩ : ∃ z : Int32, z = (if (0 : Int32) < ct then (1 : Int32) else (0 : Int32)) := ⟨_, rfl⟩
  obtain ⟨_, _, ⟨T20, L20, k20, n20⟩, -, X20, ⟨Lc20, hQ20, l20, y20, z20⟩, st20⟩ := Jvm.LawKit.callS X19 hx (y := (⟨"com/example/tollgate/tollgate/replay/StartPairsStartingByPinLaw", "at", "(ZII)I"⟩ : MethodName)) hown (mvT hZ (hw _ (List.mem_of_getElem? (i := 8) rfl))) (mvT hZ (hw _ (List.mem_of_getElem? (i := 9) rfl))) (mvT hZ (hw _ (List.mem_of_getElem? (i := 10) rfl))) (mvT hZ (hw _ (List.mem_of_getElem? (i := 11) rfl))) (by decide) (backOf (W := 0) (rm_at l Z a0 hw [] c0 s0 p6 h19 n0 sz19) hZ (hw _ (List.mem_of_getElem? (i := 11) rfl)) (hw _ (List.mem_of_getElem? (i := 10) rfl)) (by decide) (by decide)) (g := (mkF m 161 #[.val (.int p1), .val (.int p2), .val (.int p3), .val (.int p4), .val (.int p5), .val (.int p6), .val (.int lo1), .val (.int hi1), .val (.int lo2), .val (.int hi2), .val (.int s0), .val (.int t1), .val (.int t2), .val (.int s3), .val (.int s1), .val (.int s2), .val (.int ct), .val (.ref b), .unset] [(.int p6), (.int s0), (.int c0)])) rfl (by rw [hml]; rfl) (argsL := [(.int c0), (.int s0), (.int p6)]) (rest := []) (lenOf own_pd1 rfl) rfl (by show 2 * 0 + _ ≤ _; exact Nat.le_of_eq rfl) (hb hby at_161) (fun _ _ => ⟨rfl, e19, (by decide : 1 + 0 ≤ _), (by decide : 8 + 0 ≤ _)⟩)
  dsimp only [Pt.U, Pt.locs, Pt.cells, Pt.slots] at X20 l20 y20 z20 st20 hQ20
  rw [l20, y20, z20] at X20
  obtain ⟨rfl, Nq20, e20⟩ := hQ20
  have N20 := Fr.app N19 Nq20
  obtain ⟨c1, h_c1⟩ : ∃ z : Int32, z = (if (1 : Int32) < ct then (1 : Int32) else (0 : Int32)) := ⟨_, rfl⟩
  obtain ⟨_, _, ⟨T21, L21, k21, n21⟩, -, X21, ⟨Lc21, hQ21, l21, y21, z21⟩, st21⟩ := Jvm.LawKit.callS X20 hx (y := (⟨"com/example/tollgate/tollgate/replay/StartPairsStartingByPinLaw", "at", "(ZII)I"⟩ : MethodName)) hown (mvT hZ (hw _ (List.mem_of_getElem? (i := 8) rfl))) (mvT hZ (hw _ (List.mem_of_getElem? (i := 9) rfl))) (mvT hZ (hw _ (List.mem_of_getElem? (i := 10) rfl))) (mvT hZ (hw _ (List.mem_of_getElem? (i := 11) rfl))) (by decide) (backOf (W := 1) (rm_at l Z a0 hw [] c1 s1 p6 h19 n0 sz19) hZ (hw _ (List.mem_of_getElem? (i := 11) rfl)) (hw _ (List.mem_of_getElem? (i := 10) rfl)) (by decide) (by decide)) (g := (mkF m 179 #[.val (.int p1), .val (.int p2), .val (.int p3), .val (.int p4), .val (.int p5), .val (.int p6), .val (.int lo1), .val (.int hi1), .val (.int lo2), .val (.int hi2), .val (.int s0), .val (.int t1), .val (.int t2), .val (.int s3), .val (.int s1), .val (.int s2), .val (.int ct), .val (.ref b), .unset] [(.int p6), (.int s1), (.int c1), (.int (own_at c0 s0 p6))])) rfl (by rw [hml]; rfl) (argsL := [(.int c1), (.int s1), (.int p6)]) (rest := [(.int (own_at c0 s0 p6))]) (lenOf own_pd1 rfl) rfl (by show 2 * 0 + _ ≤ _; exact Nat.le_of_eq rfl) (hb hby at_179) (fun _ _ => ⟨rfl, e20, (by decide : 1 + 0 ≤ _), (by decide : 8 + 0 ≤ _)⟩)
  dsimp only [Pt.U, Pt.locs, Pt.cells, Pt.slots] at X21 l21 y21 z21 st21 hQ21
  rw [l21, y21, z21] at X21
  obtain ⟨rfl, Nq21, e21⟩ := hQ21
  have N21 := Fr.app N20 Nq21
  obtain ⟨c2, h_c2⟩ : ∃ z : Int32, z = (if (2 : Int32) < ct then (1 : Int32) else (0 : Int32)) := ⟨_, rfl⟩
  obtain ⟨_, _, ⟨T22, L22, k22, n22⟩, -, X22, ⟨Lc22, hQ22, l22, y22, z22⟩, st22⟩ := Jvm.LawKit.callS X21 hx (y := (⟨"com/example/tollgate/tollgate/replay/StartPairsStartingByPinLaw", "at", "(ZII)I"⟩ : MethodName)) hown (mvT hZ (hw _ (List.mem_of_getElem? (i := 8) rfl))) (mvT hZ (hw _ (List.mem_of_getElem? (i := 9) rfl))) (mvT hZ (hw _ (List.mem_of_getElem? (i := 10) rfl))) (mvT hZ (hw _ (List.mem_of_getElem? (i := 11) rfl))) (by decide) (backOf (W := 1) (rm_at l Z a0 hw [] c2 s2 p6 h19 n0 sz19) hZ (hw _ (List.mem_of_getElem? (i := 11) rfl)) (hw _ (List.mem_of_getElem? (i := 10) rfl)) (by decide) (by decide)) (g := (mkF m 198 #[.val (.int p1), .val (.int p2), .val (.int p3), .val (.int p4), .val (.int p5), .val (.int p6), .val (.int lo1), .val (.int hi1), .val (.int lo2), .val (.int hi2), .val (.int s0), .val (.int t1), .val (.int t2), .val (.int s3), .val (.int s1), .val (.int s2), .val (.int ct), .val (.ref b), .unset] [(.int p6), (.int s2), (.int c2), (.int ((own_at c0 s0 p6) + (own_at c1 s1 p6)))])) rfl (by rw [hml]; rfl) (argsL := [(.int c2), (.int s2), (.int p6)]) (rest := [(.int ((own_at c0 s0 p6) + (own_at c1 s1 p6)))]) (lenOf own_pd1 rfl) rfl (by show 2 * 0 + _ ≤ _; exact Nat.le_of_eq rfl) (hb hby at_198) (fun _ _ => ⟨rfl, e21, (by decide : 1 + 0 ≤ _), (by decide : 8 + 0 ≤ _)⟩)
  dsimp only [Pt.U, Pt.locs, Pt.cells, Pt.slots] at X22 l22 y22 z22 st22 hQ22
  rw [l22, y22, z22] at X22
  obtain ⟨rfl, Nq22, e22⟩ := hQ22
  have N22 := Fr.app N21 Nq22
  obtain ⟨c3, h_c3⟩ : ∃ z : Int32, z = (if (3 : Int32) < ct then (1 : Int32) else (0 : Int32)) := ⟨_, rfl⟩
  obtain ⟨_, _, ⟨T23, L23, k23, n23⟩, -, X23, ⟨Lc23, hQ23, l23, y23, z23⟩, st23⟩ := Jvm.LawKit.callS X22 hx (y := (⟨"com/example/tollgate/tollgate/replay/StartPairsStartingByPinLaw", "at", "(ZII)I"⟩ : MethodName)) hown (mvT hZ (hw _ (List.mem_of_getElem? (i := 8) rfl))) (mvT hZ (hw _ (List.mem_of_getElem? (i := 9) rfl))) (mvT hZ (hw _ (List.mem_of_getElem? (i := 10) rfl))) (mvT hZ (hw _ (List.mem_of_getElem? (i := 11) rfl))) (by decide) (backOf (W := 1) (rm_at l Z a0 hw [] c3 s3 p6 h19 n0 sz19) hZ (hw _ (List.mem_of_getElem? (i := 11) rfl)) (hw _ (List.mem_of_getElem? (i := 10) rfl)) (by decide) (by decide)) (g := (mkF m 217 #[.val (.int p1), .val (.int p2), .val (.int p3), .val (.int p4), .val (.int p5), .val (.int p6), .val (.int lo1), .val (.int hi1), .val (.int lo2), .val (.int hi2), .val (.int s0), .val (.int t1), .val (.int t2), .val (.int s3), .val (.int s1), .val (.int s2), .val (.int ct), .val (.ref b), .unset] [(.int p6), (.int s3), (.int c3), (.int (((own_at c0 s0 p6) + (own_at c1 s1 p6)) + (own_at c2 s2 p6)))])) rfl (by rw [hml]; rfl) (argsL := [(.int c3), (.int s3), (.int p6)]) (rest := [(.int (((own_at c0 s0 p6) + (own_at c1 s1 p6)) + (own_at c2 s2 p6)))]) (lenOf own_pd1 rfl) rfl (by show 2 * 0 + _ ≤ _; exact Nat.le_of_eq rfl) (hb hby at_217) (fun _ _ => ⟨rfl, e22, (by decide : 1 + 0 ≤ _), (by decide : 8 + 0 ≤ _)⟩)
  dsimp only [Pt.U, Pt.locs, Pt.cells, Pt.slots] at X23 l23 y23 z23 st23 hQ23
  rw [l23, y23, z23] at X23
  obtain ⟨rfl, Nq23, e23⟩ := hQ23
  have N23 := Fr.app N22 Nq23
  have hpl := own_plain p1 p2 p3 p4 p6 n hn4 s0 s1 s2 s3 f1.1 f1.2.1 f1.2.2
  rw [← hn, ← h_c0, ← h_c1, ← h_c2, ← h_c3] at hpl
  obtain ⟨_, _, ⟨T24, L24, k24, n24⟩, -, X24, ⟨Lc24, hQ24, l24, y24, z24⟩, st24⟩ := Jvm.LawKit.callS X23 hx (y := (⟨"com/example/tollgate/tollgate/replay/StartPairs", "startingBy", "([III)I"⟩ : MethodName)) hown (mvT hZ (hw _ (List.mem_of_getElem? (i := 12) rfl))) (mvT hZ (hw _ (List.mem_of_getElem? (i := 13) rfl))) (mvT hZ (hw _ (List.mem_of_getElem? (i := 14) rfl))) (mvT hZ (hw _ (List.mem_of_getElem? (i := 15) rfl))) (by decide) (backOf (W := 0) (rm_sb l Z a0 hw [] b ct p6 s0 s1 s2 s3 n _ h19 n0 sz19 hn hn4 V9_) hZ (hw _ (List.mem_of_getElem? (i := 15) rfl)) (hw _ (List.mem_of_getElem? (i := 14) rfl)) (by decide) (by decide)) (g := (mkF m 229 #[.val (.int p1), .val (.int p2), .val (.int p3), .val (.int p4), .val (.int p5), .val (.int p6), .val (.int lo1), .val (.int hi1), .val (.int lo2), .val (.int hi2), .val (.int s0), .val (.int t1), .val (.int t2), .val (.int s3), .val (.int s1), .val (.int s2), .val (.int ct), .val (.ref b), .val (.int ((((own_at c0 s0 p6) + (own_at c1 s1 p6)) + (own_at c2 s2 p6)) + (own_at c3 s3 p6)))] [(.int p6), (.int ct), (.ref b)])) rfl (by rw [hml]; rfl) (argsL := [(.ref b), (.int ct), (.int p6)]) (rest := []) (lenOf own_pd2 rfl) rfl (by show 2 * 0 + _ ≤ _; exact Nat.le_of_eq rfl) (hb hby at_229) (fun _ _ => ⟨rfl, e23, (by decide : 1 + 0 ≤ _), (by decide : 8 + 0 ≤ _)⟩)
  dsimp only [Pt.U, Pt.locs, Pt.cells, Pt.slots] at X24 l24 y24 z24 st24 hQ24
  rw [l24, y24, z24] at X24
  obtain ⟨rfl, Nq24, e24⟩ := hQ24
  have N24 := Fr.app N23 Nq24
  obtain ⟨fs, hr, hrun, hended, hW, hsame⟩ := X24.leave (v := some (.int (1 : Int32))) (fun h => by rw [Bd.returns] at h; cases h)
  refine ⟨_, _, pre0 _ ?_, hrun, hended, _, _, rfl, ?_, ⟨_, rfl⟩, hW, hsame.mono (by decide) (by decide)⟩
  · show Steps p.tables e below (s₁.setTop (mkF m 0 #[.val (.int p1), .val (.int p2), .val (.int p3), .val (.int p4), .val (.int p5), .val (.int p6), .unset, .unset, .unset, .unset, .unset, .unset, .unset, .unset, .unset, .unset, .unset, .unset, .unset] [])) _
    refine XS.iloadN X0.here hx rfl (hb hby at_0) rfl ?_
    show Steps p.tables e below (s₁.setTop (mkF m 1 #[.val (.int p1), .val (.int p2), .val (.int p3), .val (.int p4), .val (.int p5), .val (.int p6), .unset, .unset, .unset, .unset, .unset, .unset, .unset, .unset, .unset, .unset, .unset, .unset, .unset] [(.int p1)])) _
    refine XS.iloadN X0.here hx rfl (hb hby at_1) rfl ?_
    show Steps p.tables e below (s₁.setTop (mkF m 2 #[.val (.int p1), .val (.int p2), .val (.int p3), .val (.int p4), .val (.int p5), .val (.int p6), .unset, .unset, .unset, .unset, .unset, .unset, .unset, .unset, .unset, .unset, .unset, .unset, .unset] [(.int p2), (.int p1)])) _
    refine st1 _ ?_
    show Steps p.tables e below (T1.setTop (mkF m 5 #[.val (.int p1), .val (.int p2), .val (.int p3), .val (.int p4), .val (.int p5), .val (.int p6), .unset, .unset, .unset, .unset, .unset, .unset, .unset, .unset, .unset, .unset, .unset, .unset, .unset] [(.int (own_min p1 p2))])) _
    rw [h2_lo1]
    show Steps p.tables e below (T1.setTop (mkF m 5 #[.val (.int p1), .val (.int p2), .val (.int p3), .val (.int p4), .val (.int p5), .val (.int p6), .unset, .unset, .unset, .unset, .unset, .unset, .unset, .unset, .unset, .unset, .unset, .unset, .unset] [(.int lo1)])) _
    refine XS.istore X1.here hx rfl (hb hby at_5) rfl (l' := #[.val (.int p1), .val (.int p2), .val (.int p3), .val (.int p4), .val (.int p5), .val (.int p6), .val (.int lo1), .unset, .unset, .unset, .unset, .unset, .unset, .unset, .unset, .unset, .unset, .unset, .unset]) rfl ?_
    show Steps p.tables e below (T1.setTop (mkF m 7 #[.val (.int p1), .val (.int p2), .val (.int p3), .val (.int p4), .val (.int p5), .val (.int p6), .val (.int lo1), .unset, .unset, .unset, .unset, .unset, .unset, .unset, .unset, .unset, .unset, .unset, .unset] [])) _
    refine XS.iloadN X1.here hx rfl (hb hby at_7) rfl ?_
    show Steps p.tables e below (T1.setTop (mkF m 8 #[.val (.int p1), .val (.int p2), .val (.int p3), .val (.int p4), .val (.int p5), .val (.int p6), .val (.int lo1), .unset, .unset, .unset, .unset, .unset, .unset, .unset, .unset, .unset, .unset, .unset, .unset] [(.int p1)])) _
    refine XS.iloadN X1.here hx rfl (hb hby at_8) rfl ?_
    show Steps p.tables e below (T1.setTop (mkF m 9 #[.val (.int p1), .val (.int p2), .val (.int p3), .val (.int p4), .val (.int p5), .val (.int p6), .val (.int lo1), .unset, .unset, .unset, .unset, .unset, .unset, .unset, .unset, .unset, .unset, .unset, .unset] [(.int p2), (.int p1)])) _
    refine st2 _ ?_
    show Steps p.tables e below (T2.setTop (mkF m 12 #[.val (.int p1), .val (.int p2), .val (.int p3), .val (.int p4), .val (.int p5), .val (.int p6), .val (.int lo1), .unset, .unset, .unset, .unset, .unset, .unset, .unset, .unset, .unset, .unset, .unset, .unset] [(.int (own_max p1 p2))])) _
    rw [h2_hi1]
    show Steps p.tables e below (T2.setTop (mkF m 12 #[.val (.int p1), .val (.int p2), .val (.int p3), .val (.int p4), .val (.int p5), .val (.int p6), .val (.int lo1), .unset, .unset, .unset, .unset, .unset, .unset, .unset, .unset, .unset, .unset, .unset, .unset] [(.int hi1)])) _
    refine XS.istore X2.here hx rfl (hb hby at_12) rfl (l' := #[.val (.int p1), .val (.int p2), .val (.int p3), .val (.int p4), .val (.int p5), .val (.int p6), .val (.int lo1), .val (.int hi1), .unset, .unset, .unset, .unset, .unset, .unset, .unset, .unset, .unset, .unset, .unset]) rfl ?_
    show Steps p.tables e below (T2.setTop (mkF m 14 #[.val (.int p1), .val (.int p2), .val (.int p3), .val (.int p4), .val (.int p5), .val (.int p6), .val (.int lo1), .val (.int hi1), .unset, .unset, .unset, .unset, .unset, .unset, .unset, .unset, .unset, .unset, .unset] [])) _
    refine XS.iloadN X2.here hx rfl (hb hby at_14) rfl ?_
    show Steps p.tables e below (T2.setTop (mkF m 15 #[.val (.int p1), .val (.int p2), .val (.int p3), .val (.int p4), .val (.int p5), .val (.int p6), .val (.int lo1), .val (.int hi1), .unset, .unset, .unset, .unset, .unset, .unset, .unset, .unset, .unset, .unset, .unset] [(.int p3)])) _
    refine XS.iloadN X2.here hx rfl (hb hby at_15) rfl ?_
    show Steps p.tables e below (T2.setTop (mkF m 16 #[.val (.int p1), .val (.int p2), .val (.int p3), .val (.int p4), .val (.int p5), .val (.int p6), .val (.int lo1), .val (.int hi1), .unset, .unset, .unset, .unset, .unset, .unset, .unset, .unset, .unset, .unset, .unset] [(.int p4), (.int p3)])) _
    refine st3 _ ?_
    show Steps p.tables e below (T3.setTop (mkF m 19 #[.val (.int p1), .val (.int p2), .val (.int p3), .val (.int p4), .val (.int p5), .val (.int p6), .val (.int lo1), .val (.int hi1), .unset, .unset, .unset, .unset, .unset, .unset, .unset, .unset, .unset, .unset, .unset] [(.int (own_min p3 p4))])) _
    rw [h2_lo2]
    show Steps p.tables e below (T3.setTop (mkF m 19 #[.val (.int p1), .val (.int p2), .val (.int p3), .val (.int p4), .val (.int p5), .val (.int p6), .val (.int lo1), .val (.int hi1), .unset, .unset, .unset, .unset, .unset, .unset, .unset, .unset, .unset, .unset, .unset] [(.int lo2)])) _
    refine XS.istore X3.here hx rfl (hb hby at_19) rfl (l' := #[.val (.int p1), .val (.int p2), .val (.int p3), .val (.int p4), .val (.int p5), .val (.int p6), .val (.int lo1), .val (.int hi1), .val (.int lo2), .unset, .unset, .unset, .unset, .unset, .unset, .unset, .unset, .unset, .unset]) rfl ?_
    show Steps p.tables e below (T3.setTop (mkF m 21 #[.val (.int p1), .val (.int p2), .val (.int p3), .val (.int p4), .val (.int p5), .val (.int p6), .val (.int lo1), .val (.int hi1), .val (.int lo2), .unset, .unset, .unset, .unset, .unset, .unset, .unset, .unset, .unset, .unset] [])) _
    refine XS.iloadN X3.here hx rfl (hb hby at_21) rfl ?_
    show Steps p.tables e below (T3.setTop (mkF m 22 #[.val (.int p1), .val (.int p2), .val (.int p3), .val (.int p4), .val (.int p5), .val (.int p6), .val (.int lo1), .val (.int hi1), .val (.int lo2), .unset, .unset, .unset, .unset, .unset, .unset, .unset, .unset, .unset, .unset] [(.int p3)])) _
    refine XS.iloadN X3.here hx rfl (hb hby at_22) rfl ?_
    show Steps p.tables e below (T3.setTop (mkF m 23 #[.val (.int p1), .val (.int p2), .val (.int p3), .val (.int p4), .val (.int p5), .val (.int p6), .val (.int lo1), .val (.int hi1), .val (.int lo2), .unset, .unset, .unset, .unset, .unset, .unset, .unset, .unset, .unset, .unset] [(.int p4), (.int p3)])) _
    refine st4 _ ?_
    show Steps p.tables e below (T4.setTop (mkF m 26 #[.val (.int p1), .val (.int p2), .val (.int p3), .val (.int p4), .val (.int p5), .val (.int p6), .val (.int lo1), .val (.int hi1), .val (.int lo2), .unset, .unset, .unset, .unset, .unset, .unset, .unset, .unset, .unset, .unset] [(.int (own_max p3 p4))])) _
    rw [h2_hi2]
    show Steps p.tables e below (T4.setTop (mkF m 26 #[.val (.int p1), .val (.int p2), .val (.int p3), .val (.int p4), .val (.int p5), .val (.int p6), .val (.int lo1), .val (.int hi1), .val (.int lo2), .unset, .unset, .unset, .unset, .unset, .unset, .unset, .unset, .unset, .unset] [(.int hi2)])) _
    refine XS.istore X4.here hx rfl (hb hby at_26) rfl (l' := #[.val (.int p1), .val (.int p2), .val (.int p3), .val (.int p4), .val (.int p5), .val (.int p6), .val (.int lo1), .val (.int hi1), .val (.int lo2), .val (.int hi2), .unset, .unset, .unset, .unset, .unset, .unset, .unset, .unset, .unset]) rfl ?_
    show Steps p.tables e below (T4.setTop (mkF m 28 #[.val (.int p1), .val (.int p2), .val (.int p3), .val (.int p4), .val (.int p5), .val (.int p6), .val (.int lo1), .val (.int hi1), .val (.int lo2), .val (.int hi2), .unset, .unset, .unset, .unset, .unset, .unset, .unset, .unset, .unset] [])) _
    refine XS.iload X4.here hx rfl (hb hby at_28) rfl ?_
    show Steps p.tables e below (T4.setTop (mkF m 30 #[.val (.int p1), .val (.int p2), .val (.int p3), .val (.int p4), .val (.int p5), .val (.int p6), .val (.int lo1), .val (.int hi1), .val (.int lo2), .val (.int hi2), .unset, .unset, .unset, .unset, .unset, .unset, .unset, .unset, .unset] [(.int lo1)])) _
    refine XS.iload X4.here hx rfl (hb hby at_30) rfl ?_
    show Steps p.tables e below (T4.setTop (mkF m 32 #[.val (.int p1), .val (.int p2), .val (.int p3), .val (.int p4), .val (.int p5), .val (.int p6), .val (.int lo1), .val (.int hi1), .val (.int lo2), .val (.int hi2), .unset, .unset, .unset, .unset, .unset, .unset, .unset, .unset, .unset] [(.int lo2), (.int lo1)])) _
    refine st5 _ ?_
    show Steps p.tables e below (T5.setTop (mkF m 35 #[.val (.int p1), .val (.int p2), .val (.int p3), .val (.int p4), .val (.int p5), .val (.int p6), .val (.int lo1), .val (.int hi1), .val (.int lo2), .val (.int hi2), .unset, .unset, .unset, .unset, .unset, .unset, .unset, .unset, .unset] [(.int (own_min lo1 lo2))])) _
    rw [h2_s0]
    show Steps p.tables e below (T5.setTop (mkF m 35 #[.val (.int p1), .val (.int p2), .val (.int p3), .val (.int p4), .val (.int p5), .val (.int p6), .val (.int lo1), .val (.int hi1), .val (.int lo2), .val (.int hi2), .unset, .unset, .unset, .unset, .unset, .unset, .unset, .unset, .unset] [(.int s0)])) _
    refine XS.istore X5.here hx rfl (hb hby at_35) rfl (l' := #[.val (.int p1), .val (.int p2), .val (.int p3), .val (.int p4), .val (.int p5), .val (.int p6), .val (.int lo1), .val (.int hi1), .val (.int lo2), .val (.int hi2), .val (.int s0), .unset, .unset, .unset, .unset, .unset, .unset, .unset, .unset]) rfl ?_
    show Steps p.tables e below (T5.setTop (mkF m 37 #[.val (.int p1), .val (.int p2), .val (.int p3), .val (.int p4), .val (.int p5), .val (.int p6), .val (.int lo1), .val (.int hi1), .val (.int lo2), .val (.int hi2), .val (.int s0), .unset, .unset, .unset, .unset, .unset, .unset, .unset, .unset] [])) _
    refine XS.iload X5.here hx rfl (hb hby at_37) rfl ?_
    show Steps p.tables e below (T5.setTop (mkF m 39 #[.val (.int p1), .val (.int p2), .val (.int p3), .val (.int p4), .val (.int p5), .val (.int p6), .val (.int lo1), .val (.int hi1), .val (.int lo2), .val (.int hi2), .val (.int s0), .unset, .unset, .unset, .unset, .unset, .unset, .unset, .unset] [(.int lo1)])) _
    refine XS.iload X5.here hx rfl (hb hby at_39) rfl ?_
    show Steps p.tables e below (T5.setTop (mkF m 41 #[.val (.int p1), .val (.int p2), .val (.int p3), .val (.int p4), .val (.int p5), .val (.int p6), .val (.int lo1), .val (.int hi1), .val (.int lo2), .val (.int hi2), .val (.int s0), .unset, .unset, .unset, .unset, .unset, .unset, .unset, .unset] [(.int lo2), (.int lo1)])) _
    refine st6 _ ?_
    show Steps p.tables e below (T6.setTop (mkF m 44 #[.val (.int p1), .val (.int p2), .val (.int p3), .val (.int p4), .val (.int p5), .val (.int p6), .val (.int lo1), .val (.int hi1), .val (.int lo2), .val (.int hi2), .val (.int s0), .unset, .unset, .unset, .unset, .unset, .unset, .unset, .unset] [(.int (own_max lo1 lo2))])) _
    rw [h2_t1]
    show Steps p.tables e below (T6.setTop (mkF m 44 #[.val (.int p1), .val (.int p2), .val (.int p3), .val (.int p4), .val (.int p5), .val (.int p6), .val (.int lo1), .val (.int hi1), .val (.int lo2), .val (.int hi2), .val (.int s0), .unset, .unset, .unset, .unset, .unset, .unset, .unset, .unset] [(.int t1)])) _
    refine XS.istore X6.here hx rfl (hb hby at_44) rfl (l' := #[.val (.int p1), .val (.int p2), .val (.int p3), .val (.int p4), .val (.int p5), .val (.int p6), .val (.int lo1), .val (.int hi1), .val (.int lo2), .val (.int hi2), .val (.int s0), .val (.int t1), .unset, .unset, .unset, .unset, .unset, .unset, .unset]) rfl ?_
    show Steps p.tables e below (T6.setTop (mkF m 46 #[.val (.int p1), .val (.int p2), .val (.int p3), .val (.int p4), .val (.int p5), .val (.int p6), .val (.int lo1), .val (.int hi1), .val (.int lo2), .val (.int hi2), .val (.int s0), .val (.int t1), .unset, .unset, .unset, .unset, .unset, .unset, .unset] [])) _
    refine XS.iload X6.here hx rfl (hb hby at_46) rfl ?_
    show Steps p.tables e below (T6.setTop (mkF m 48 #[.val (.int p1), .val (.int p2), .val (.int p3), .val (.int p4), .val (.int p5), .val (.int p6), .val (.int lo1), .val (.int hi1), .val (.int lo2), .val (.int hi2), .val (.int s0), .val (.int t1), .unset, .unset, .unset, .unset, .unset, .unset, .unset] [(.int hi1)])) _
    refine XS.iload X6.here hx rfl (hb hby at_48) rfl ?_
    show Steps p.tables e below (T6.setTop (mkF m 50 #[.val (.int p1), .val (.int p2), .val (.int p3), .val (.int p4), .val (.int p5), .val (.int p6), .val (.int lo1), .val (.int hi1), .val (.int lo2), .val (.int hi2), .val (.int s0), .val (.int t1), .unset, .unset, .unset, .unset, .unset, .unset, .unset] [(.int hi2), (.int hi1)])) _
    refine st7 _ ?_
    show Steps p.tables e below (T7.setTop (mkF m 53 #[.val (.int p1), .val (.int p2), .val (.int p3), .val (.int p4), .val (.int p5), .val (.int p6), .val (.int lo1), .val (.int hi1), .val (.int lo2), .val (.int hi2), .val (.int s0), .val (.int t1), .unset, .unset, .unset, .unset, .unset, .unset, .unset] [(.int (own_min hi1 hi2))])) _
    rw [h2_t2]
    show Steps p.tables e below (T7.setTop (mkF m 53 #[.val (.int p1), .val (.int p2), .val (.int p3), .val (.int p4), .val (.int p5), .val (.int p6), .val (.int lo1), .val (.int hi1), .val (.int lo2), .val (.int hi2), .val (.int s0), .val (.int t1), .unset, .unset, .unset, .unset, .unset, .unset, .unset] [(.int t2)])) _
    refine XS.istore X7.here hx rfl (hb hby at_53) rfl (l' := #[.val (.int p1), .val (.int p2), .val (.int p3), .val (.int p4), .val (.int p5), .val (.int p6), .val (.int lo1), .val (.int hi1), .val (.int lo2), .val (.int hi2), .val (.int s0), .val (.int t1), .val (.int t2), .unset, .unset, .unset, .unset, .unset, .unset]) rfl ?_
    show Steps p.tables e below (T7.setTop (mkF m 55 #[.val (.int p1), .val (.int p2), .val (.int p3), .val (.int p4), .val (.int p5), .val (.int p6), .val (.int lo1), .val (.int hi1), .val (.int lo2), .val (.int hi2), .val (.int s0), .val (.int t1), .val (.int t2), .unset, .unset, .unset, .unset, .unset, .unset] [])) _
    refine XS.iload X7.here hx rfl (hb hby at_55) rfl ?_
    show Steps p.tables e below (T7.setTop (mkF m 57 #[.val (.int p1), .val (.int p2), .val (.int p3), .val (.int p4), .val (.int p5), .val (.int p6), .val (.int lo1), .val (.int hi1), .val (.int lo2), .val (.int hi2), .val (.int s0), .val (.int t1), .val (.int t2), .unset, .unset, .unset, .unset, .unset, .unset] [(.int hi1)])) _
    refine XS.iload X7.here hx rfl (hb hby at_57) rfl ?_
    show Steps p.tables e below (T7.setTop (mkF m 59 #[.val (.int p1), .val (.int p2), .val (.int p3), .val (.int p4), .val (.int p5), .val (.int p6), .val (.int lo1), .val (.int hi1), .val (.int lo2), .val (.int hi2), .val (.int s0), .val (.int t1), .val (.int t2), .unset, .unset, .unset, .unset, .unset, .unset] [(.int hi2), (.int hi1)])) _
    refine st8 _ ?_
    show Steps p.tables e below (T8.setTop (mkF m 62 #[.val (.int p1), .val (.int p2), .val (.int p3), .val (.int p4), .val (.int p5), .val (.int p6), .val (.int lo1), .val (.int hi1), .val (.int lo2), .val (.int hi2), .val (.int s0), .val (.int t1), .val (.int t2), .unset, .unset, .unset, .unset, .unset, .unset] [(.int (own_max hi1 hi2))])) _
    rw [h2_s3]
    show Steps p.tables e below (T8.setTop (mkF m 62 #[.val (.int p1), .val (.int p2), .val (.int p3), .val (.int p4), .val (.int p5), .val (.int p6), .val (.int lo1), .val (.int hi1), .val (.int lo2), .val (.int hi2), .val (.int s0), .val (.int t1), .val (.int t2), .unset, .unset, .unset, .unset, .unset, .unset] [(.int s3)])) _
    refine XS.istore X8.here hx rfl (hb hby at_62) rfl (l' := #[.val (.int p1), .val (.int p2), .val (.int p3), .val (.int p4), .val (.int p5), .val (.int p6), .val (.int lo1), .val (.int hi1), .val (.int lo2), .val (.int hi2), .val (.int s0), .val (.int t1), .val (.int t2), .val (.int s3), .unset, .unset, .unset, .unset, .unset]) rfl ?_
    show Steps p.tables e below (T8.setTop (mkF m 64 #[.val (.int p1), .val (.int p2), .val (.int p3), .val (.int p4), .val (.int p5), .val (.int p6), .val (.int lo1), .val (.int hi1), .val (.int lo2), .val (.int hi2), .val (.int s0), .val (.int t1), .val (.int t2), .val (.int s3), .unset, .unset, .unset, .unset, .unset] [])) _
    refine XS.iload X8.here hx rfl (hb hby at_64) rfl ?_
    show Steps p.tables e below (T8.setTop (mkF m 66 #[.val (.int p1), .val (.int p2), .val (.int p3), .val (.int p4), .val (.int p5), .val (.int p6), .val (.int lo1), .val (.int hi1), .val (.int lo2), .val (.int hi2), .val (.int s0), .val (.int t1), .val (.int t2), .val (.int s3), .unset, .unset, .unset, .unset, .unset] [(.int t1)])) _
    refine XS.iload X8.here hx rfl (hb hby at_66) rfl ?_
    show Steps p.tables e below (T8.setTop (mkF m 68 #[.val (.int p1), .val (.int p2), .val (.int p3), .val (.int p4), .val (.int p5), .val (.int p6), .val (.int lo1), .val (.int hi1), .val (.int lo2), .val (.int hi2), .val (.int s0), .val (.int t1), .val (.int t2), .val (.int s3), .unset, .unset, .unset, .unset, .unset] [(.int t2), (.int t1)])) _
    refine st9 _ ?_
    show Steps p.tables e below (T9.setTop (mkF m 71 #[.val (.int p1), .val (.int p2), .val (.int p3), .val (.int p4), .val (.int p5), .val (.int p6), .val (.int lo1), .val (.int hi1), .val (.int lo2), .val (.int hi2), .val (.int s0), .val (.int t1), .val (.int t2), .val (.int s3), .unset, .unset, .unset, .unset, .unset] [(.int (own_min t1 t2))])) _
    rw [h2_s1]
    show Steps p.tables e below (T9.setTop (mkF m 71 #[.val (.int p1), .val (.int p2), .val (.int p3), .val (.int p4), .val (.int p5), .val (.int p6), .val (.int lo1), .val (.int hi1), .val (.int lo2), .val (.int hi2), .val (.int s0), .val (.int t1), .val (.int t2), .val (.int s3), .unset, .unset, .unset, .unset, .unset] [(.int s1)])) _
    refine XS.istore X9.here hx rfl (hb hby at_71) rfl (l' := #[.val (.int p1), .val (.int p2), .val (.int p3), .val (.int p4), .val (.int p5), .val (.int p6), .val (.int lo1), .val (.int hi1), .val (.int lo2), .val (.int hi2), .val (.int s0), .val (.int t1), .val (.int t2), .val (.int s3), .val (.int s1), .unset, .unset, .unset, .unset]) rfl ?_
    show Steps p.tables e below (T9.setTop (mkF m 73 #[.val (.int p1), .val (.int p2), .val (.int p3), .val (.int p4), .val (.int p5), .val (.int p6), .val (.int lo1), .val (.int hi1), .val (.int lo2), .val (.int hi2), .val (.int s0), .val (.int t1), .val (.int t2), .val (.int s3), .val (.int s1), .unset, .unset, .unset, .unset] [])) _
    refine XS.iload X9.here hx rfl (hb hby at_73) rfl ?_
    show Steps p.tables e below (T9.setTop (mkF m 75 #[.val (.int p1), .val (.int p2), .val (.int p3), .val (.int p4), .val (.int p5), .val (.int p6), .val (.int lo1), .val (.int hi1), .val (.int lo2), .val (.int hi2), .val (.int s0), .val (.int t1), .val (.int t2), .val (.int s3), .val (.int s1), .unset, .unset, .unset, .unset] [(.int t1)])) _
    refine XS.iload X9.here hx rfl (hb hby at_75) rfl ?_
    show Steps p.tables e below (T9.setTop (mkF m 77 #[.val (.int p1), .val (.int p2), .val (.int p3), .val (.int p4), .val (.int p5), .val (.int p6), .val (.int lo1), .val (.int hi1), .val (.int lo2), .val (.int hi2), .val (.int s0), .val (.int t1), .val (.int t2), .val (.int s3), .val (.int s1), .unset, .unset, .unset, .unset] [(.int t2), (.int t1)])) _
    refine st10 _ ?_
    show Steps p.tables e below (T10.setTop (mkF m 80 #[.val (.int p1), .val (.int p2), .val (.int p3), .val (.int p4), .val (.int p5), .val (.int p6), .val (.int lo1), .val (.int hi1), .val (.int lo2), .val (.int hi2), .val (.int s0), .val (.int t1), .val (.int t2), .val (.int s3), .val (.int s1), .unset, .unset, .unset, .unset] [(.int (own_max t1 t2))])) _
    rw [h2_s2]
    show Steps p.tables e below (T10.setTop (mkF m 80 #[.val (.int p1), .val (.int p2), .val (.int p3), .val (.int p4), .val (.int p5), .val (.int p6), .val (.int lo1), .val (.int hi1), .val (.int lo2), .val (.int hi2), .val (.int s0), .val (.int t1), .val (.int t2), .val (.int s3), .val (.int s1), .unset, .unset, .unset, .unset] [(.int s2)])) _
    refine XS.istore X10.here hx rfl (hb hby at_80) rfl (l' := #[.val (.int p1), .val (.int p2), .val (.int p3), .val (.int p4), .val (.int p5), .val (.int p6), .val (.int lo1), .val (.int hi1), .val (.int lo2), .val (.int hi2), .val (.int s0), .val (.int t1), .val (.int t2), .val (.int s3), .val (.int s1), .val (.int s2), .unset, .unset, .unset]) rfl ?_
    show Steps p.tables e below (T10.setTop (mkF m 82 #[.val (.int p1), .val (.int p2), .val (.int p3), .val (.int p4), .val (.int p5), .val (.int p6), .val (.int lo1), .val (.int hi1), .val (.int lo2), .val (.int hi2), .val (.int s0), .val (.int t1), .val (.int t2), .val (.int s3), .val (.int s1), .val (.int s2), .unset, .unset, .unset] [])) _
    refine XS.iload X10.here hx rfl (hb hby at_82) rfl ?_
    show Steps p.tables e below (T10.setTop (mkF m 84 #[.val (.int p1), .val (.int p2), .val (.int p3), .val (.int p4), .val (.int p5), .val (.int p6), .val (.int lo1), .val (.int hi1), .val (.int lo2), .val (.int hi2), .val (.int s0), .val (.int t1), .val (.int t2), .val (.int s3), .val (.int s1), .val (.int s2), .unset, .unset, .unset] [(.int p5)])) _
    refine XS.bipush X10.here hx rfl (hb hby at_84) ?_
    show Steps p.tables e below (T10.setTop (mkF m 86 #[.val (.int p1), .val (.int p2), .val (.int p3), .val (.int p4), .val (.int p5), .val (.int p6), .val (.int lo1), .val (.int hi1), .val (.int lo2), .val (.int hi2), .val (.int s0), .val (.int t1), .val (.int t2), .val (.int s3), .val (.int s1), .val (.int s2), .unset, .unset, .unset] [(.int (7 : Int32)), (.int p5)])) _
    refine XS.iand X10.here hx rfl (hb hby at_86) rfl ?_
    show Steps p.tables e below (T10.setTop (mkF m 87 #[.val (.int p1), .val (.int p2), .val (.int p3), .val (.int p4), .val (.int p5), .val (.int p6), .val (.int lo1), .val (.int hi1), .val (.int lo2), .val (.int hi2), .val (.int s0), .val (.int t1), .val (.int t2), .val (.int s3), .val (.int s1), .val (.int s2), .unset, .unset, .unset] [(.int (p5 &&& (7 : Int32)))])) _
    refine XS.iconst X10.here hx rfl (hb hby at_87) ?_
    show Steps p.tables e below (T10.setTop (mkF m 88 #[.val (.int p1), .val (.int p2), .val (.int p3), .val (.int p4), .val (.int p5), .val (.int p6), .val (.int lo1), .val (.int hi1), .val (.int lo2), .val (.int hi2), .val (.int s0), .val (.int t1), .val (.int t2), .val (.int s3), .val (.int s1), .val (.int s2), .unset, .unset, .unset] [(.int (5 : Int32)), (.int (p5 &&& (7 : Int32)))])) _
    refine iremM X10 hx rfl (hb hby at_88) rfl (by decide) ?_
    show Steps p.tables e below (T10.setTop (mkF m 89 #[.val (.int p1), .val (.int p2), .val (.int p3), .val (.int p4), .val (.int p5), .val (.int p6), .val (.int lo1), .val (.int hi1), .val (.int lo2), .val (.int hi2), .val (.int s0), .val (.int t1), .val (.int t2), .val (.int s3), .val (.int s1), .val (.int s2), .unset, .unset, .unset] [(.int ((p5 &&& (7 : Int32)) % (5 : Int32)))])) _
    refine XS.istore X10.here hx rfl (hb hby at_89) rfl (l' := #[.val (.int p1), .val (.int p2), .val (.int p3), .val (.int p4), .val (.int p5), .val (.int p6), .val (.int lo1), .val (.int hi1), .val (.int lo2), .val (.int hi2), .val (.int s0), .val (.int t1), .val (.int t2), .val (.int s3), .val (.int s1), .val (.int s2), .val (.int ((p5 &&& (7 : Int32)) % (5 : Int32))), .unset, .unset]) rfl ?_
    show Steps p.tables e below (T10.setTop (mkF m 91 #[.val (.int p1), .val (.int p2), .val (.int p3), .val (.int p4), .val (.int p5), .val (.int p6), .val (.int lo1), .val (.int hi1), .val (.int lo2), .val (.int hi2), .val (.int s0), .val (.int t1), .val (.int t2), .val (.int s3), .val (.int s1), .val (.int s2), .val (.int ((p5 &&& (7 : Int32)) % (5 : Int32))), .unset, .unset] [])) _
    rw [h2_ct]
    show Steps p.tables e below (T10.setTop (mkF m 91 #[.val (.int p1), .val (.int p2), .val (.int p3), .val (.int p4), .val (.int p5), .val (.int p6), .val (.int lo1), .val (.int hi1), .val (.int lo2), .val (.int hi2), .val (.int s0), .val (.int t1), .val (.int t2), .val (.int s3), .val (.int s1), .val (.int s2), .val (.int ct), .unset, .unset] [])) _
    refine XS.bipush X10.here hx rfl (hb hby at_91) ?_
    show Steps p.tables e below (T10.setTop (mkF m 93 #[.val (.int p1), .val (.int p2), .val (.int p3), .val (.int p4), .val (.int p5), .val (.int p6), .val (.int lo1), .val (.int hi1), .val (.int lo2), .val (.int hi2), .val (.int s0), .val (.int t1), .val (.int t2), .val (.int s3), .val (.int s1), .val (.int s2), .val (.int ct), .unset, .unset] [(.int (8 : Int32))])) _
    refine st11 _ ?_
    show Steps p.tables e below (T11.setTop (mkF m 95 #[.val (.int p1), .val (.int p2), .val (.int p3), .val (.int p4), .val (.int p5), .val (.int p6), .val (.int lo1), .val (.int hi1), .val (.int lo2), .val (.int hi2), .val (.int s0), .val (.int t1), .val (.int t2), .val (.int s3), .val (.int s1), .val (.int s2), .val (.int ct), .unset, .unset] [(.ref b)])) _
    refine XS.astore X11.here hx rfl (hb hby at_95) rfl rfl (l' := #[.val (.int p1), .val (.int p2), .val (.int p3), .val (.int p4), .val (.int p5), .val (.int p6), .val (.int lo1), .val (.int hi1), .val (.int lo2), .val (.int hi2), .val (.int s0), .val (.int t1), .val (.int t2), .val (.int s3), .val (.int s1), .val (.int s2), .val (.int ct), .val (.ref b), .unset]) rfl ?_
    show Steps p.tables e below (T11.setTop (mkF m 97 #[.val (.int p1), .val (.int p2), .val (.int p3), .val (.int p4), .val (.int p5), .val (.int p6), .val (.int lo1), .val (.int hi1), .val (.int lo2), .val (.int hi2), .val (.int s0), .val (.int t1), .val (.int t2), .val (.int s3), .val (.int s1), .val (.int s2), .val (.int ct), .val (.ref b), .unset] [])) _
    refine XS.aload X11.here hx rfl (hb hby at_97) rfl rfl ?_
    show Steps p.tables e below (T11.setTop (mkF m 99 #[.val (.int p1), .val (.int p2), .val (.int p3), .val (.int p4), .val (.int p5), .val (.int p6), .val (.int lo1), .val (.int hi1), .val (.int lo2), .val (.int hi2), .val (.int s0), .val (.int t1), .val (.int t2), .val (.int s3), .val (.int s1), .val (.int s2), .val (.int ct), .val (.ref b), .unset] [(.ref b)])) _
    refine XS.iconst X11.here hx rfl (hb hby at_99) ?_
    show Steps p.tables e below (T11.setTop (mkF m 100 #[.val (.int p1), .val (.int p2), .val (.int p3), .val (.int p4), .val (.int p5), .val (.int p6), .val (.int lo1), .val (.int hi1), .val (.int lo2), .val (.int hi2), .val (.int s0), .val (.int t1), .val (.int t2), .val (.int s3), .val (.int s1), .val (.int s2), .val (.int ct), .val (.ref b), .unset] [(.int (0 : Int32)), (.ref b)])) _
    refine XS.iload X11.here hx rfl (hb hby at_100) rfl ?_
    show Steps p.tables e below (T11.setTop (mkF m 102 #[.val (.int p1), .val (.int p2), .val (.int p3), .val (.int p4), .val (.int p5), .val (.int p6), .val (.int lo1), .val (.int hi1), .val (.int lo2), .val (.int hi2), .val (.int s0), .val (.int t1), .val (.int t2), .val (.int s3), .val (.int s1), .val (.int s2), .val (.int ct), .val (.ref b), .unset] [(.int s0), (.int (0 : Int32)), (.ref b)])) _
    refine st12 _ ?_
    show Steps p.tables e below (T12.setTop (mkF m 103 #[.val (.int p1), .val (.int p2), .val (.int p3), .val (.int p4), .val (.int p5), .val (.int p6), .val (.int lo1), .val (.int hi1), .val (.int lo2), .val (.int hi2), .val (.int s0), .val (.int t1), .val (.int t2), .val (.int s3), .val (.int s1), .val (.int s2), .val (.int ct), .val (.ref b), .unset] [])) _
    refine XS.aload X12.here hx rfl (hb hby at_103) rfl rfl ?_
    show Steps p.tables e below (T12.setTop (mkF m 105 #[.val (.int p1), .val (.int p2), .val (.int p3), .val (.int p4), .val (.int p5), .val (.int p6), .val (.int lo1), .val (.int hi1), .val (.int lo2), .val (.int hi2), .val (.int s0), .val (.int t1), .val (.int t2), .val (.int s3), .val (.int s1), .val (.int s2), .val (.int ct), .val (.ref b), .unset] [(.ref b)])) _
    refine XS.iconst X12.here hx rfl (hb hby at_105) ?_
    show Steps p.tables e below (T12.setTop (mkF m 106 #[.val (.int p1), .val (.int p2), .val (.int p3), .val (.int p4), .val (.int p5), .val (.int p6), .val (.int lo1), .val (.int hi1), .val (.int lo2), .val (.int hi2), .val (.int s0), .val (.int t1), .val (.int t2), .val (.int s3), .val (.int s1), .val (.int s2), .val (.int ct), .val (.ref b), .unset] [(.int (1 : Int32)), (.ref b)])) _
    refine XS.iload X12.here hx rfl (hb hby at_106) rfl ?_
    show Steps p.tables e below (T12.setTop (mkF m 108 #[.val (.int p1), .val (.int p2), .val (.int p3), .val (.int p4), .val (.int p5), .val (.int p6), .val (.int lo1), .val (.int hi1), .val (.int lo2), .val (.int hi2), .val (.int s0), .val (.int t1), .val (.int t2), .val (.int s3), .val (.int s1), .val (.int s2), .val (.int ct), .val (.ref b), .unset] [(.int s3), (.int (1 : Int32)), (.ref b)])) _
    refine st13 _ ?_
    show Steps p.tables e below (T13.setTop (mkF m 109 #[.val (.int p1), .val (.int p2), .val (.int p3), .val (.int p4), .val (.int p5), .val (.int p6), .val (.int lo1), .val (.int hi1), .val (.int lo2), .val (.int hi2), .val (.int s0), .val (.int t1), .val (.int t2), .val (.int s3), .val (.int s1), .val (.int s2), .val (.int ct), .val (.ref b), .unset] [])) _
    refine XS.aload X13.here hx rfl (hb hby at_109) rfl rfl ?_
    show Steps p.tables e below (T13.setTop (mkF m 111 #[.val (.int p1), .val (.int p2), .val (.int p3), .val (.int p4), .val (.int p5), .val (.int p6), .val (.int lo1), .val (.int hi1), .val (.int lo2), .val (.int hi2), .val (.int s0), .val (.int t1), .val (.int t2), .val (.int s3), .val (.int s1), .val (.int s2), .val (.int ct), .val (.ref b), .unset] [(.ref b)])) _
    refine XS.iconst X13.here hx rfl (hb hby at_111) ?_
    show Steps p.tables e below (T13.setTop (mkF m 112 #[.val (.int p1), .val (.int p2), .val (.int p3), .val (.int p4), .val (.int p5), .val (.int p6), .val (.int lo1), .val (.int hi1), .val (.int lo2), .val (.int hi2), .val (.int s0), .val (.int t1), .val (.int t2), .val (.int s3), .val (.int s1), .val (.int s2), .val (.int ct), .val (.ref b), .unset] [(.int (2 : Int32)), (.ref b)])) _
    refine XS.iload X13.here hx rfl (hb hby at_112) rfl ?_
    show Steps p.tables e below (T13.setTop (mkF m 114 #[.val (.int p1), .val (.int p2), .val (.int p3), .val (.int p4), .val (.int p5), .val (.int p6), .val (.int lo1), .val (.int hi1), .val (.int lo2), .val (.int hi2), .val (.int s0), .val (.int t1), .val (.int t2), .val (.int s3), .val (.int s1), .val (.int s2), .val (.int ct), .val (.ref b), .unset] [(.int s1), (.int (2 : Int32)), (.ref b)])) _
    refine st14 _ ?_
    show Steps p.tables e below (T14.setTop (mkF m 115 #[.val (.int p1), .val (.int p2), .val (.int p3), .val (.int p4), .val (.int p5), .val (.int p6), .val (.int lo1), .val (.int hi1), .val (.int lo2), .val (.int hi2), .val (.int s0), .val (.int t1), .val (.int t2), .val (.int s3), .val (.int s1), .val (.int s2), .val (.int ct), .val (.ref b), .unset] [])) _
    refine XS.aload X14.here hx rfl (hb hby at_115) rfl rfl ?_
    show Steps p.tables e below (T14.setTop (mkF m 117 #[.val (.int p1), .val (.int p2), .val (.int p3), .val (.int p4), .val (.int p5), .val (.int p6), .val (.int lo1), .val (.int hi1), .val (.int lo2), .val (.int hi2), .val (.int s0), .val (.int t1), .val (.int t2), .val (.int s3), .val (.int s1), .val (.int s2), .val (.int ct), .val (.ref b), .unset] [(.ref b)])) _
    refine XS.iconst X14.here hx rfl (hb hby at_117) ?_
    show Steps p.tables e below (T14.setTop (mkF m 118 #[.val (.int p1), .val (.int p2), .val (.int p3), .val (.int p4), .val (.int p5), .val (.int p6), .val (.int lo1), .val (.int hi1), .val (.int lo2), .val (.int hi2), .val (.int s0), .val (.int t1), .val (.int t2), .val (.int s3), .val (.int s1), .val (.int s2), .val (.int ct), .val (.ref b), .unset] [(.int (3 : Int32)), (.ref b)])) _
    refine XS.iload X14.here hx rfl (hb hby at_118) rfl ?_
    show Steps p.tables e below (T14.setTop (mkF m 120 #[.val (.int p1), .val (.int p2), .val (.int p3), .val (.int p4), .val (.int p5), .val (.int p6), .val (.int lo1), .val (.int hi1), .val (.int lo2), .val (.int hi2), .val (.int s0), .val (.int t1), .val (.int t2), .val (.int s3), .val (.int s1), .val (.int s2), .val (.int ct), .val (.ref b), .unset] [(.int s2), (.int (3 : Int32)), (.ref b)])) _
    refine st15 _ ?_
    show Steps p.tables e below (T15.setTop (mkF m 121 #[.val (.int p1), .val (.int p2), .val (.int p3), .val (.int p4), .val (.int p5), .val (.int p6), .val (.int lo1), .val (.int hi1), .val (.int lo2), .val (.int hi2), .val (.int s0), .val (.int t1), .val (.int t2), .val (.int s3), .val (.int s1), .val (.int s2), .val (.int ct), .val (.ref b), .unset] [])) _
    refine XS.aload X15.here hx rfl (hb hby at_121) rfl rfl ?_
    show Steps p.tables e below (T15.setTop (mkF m 123 #[.val (.int p1), .val (.int p2), .val (.int p3), .val (.int p4), .val (.int p5), .val (.int p6), .val (.int lo1), .val (.int hi1), .val (.int lo2), .val (.int hi2), .val (.int s0), .val (.int t1), .val (.int t2), .val (.int s3), .val (.int s1), .val (.int s2), .val (.int ct), .val (.ref b), .unset] [(.ref b)])) _
    refine XS.iconst X15.here hx rfl (hb hby at_123) ?_
    show Steps p.tables e below (T15.setTop (mkF m 124 #[.val (.int p1), .val (.int p2), .val (.int p3), .val (.int p4), .val (.int p5), .val (.int p6), .val (.int lo1), .val (.int hi1), .val (.int lo2), .val (.int hi2), .val (.int s0), .val (.int t1), .val (.int t2), .val (.int s3), .val (.int s1), .val (.int s2), .val (.int ct), .val (.ref b), .unset] [(.int (4 : Int32)), (.ref b)])) _
    refine XS.iload X15.here hx rfl (hb hby at_124) rfl ?_
    show Steps p.tables e below (T15.setTop (mkF m 126 #[.val (.int p1), .val (.int p2), .val (.int p3), .val (.int p4), .val (.int p5), .val (.int p6), .val (.int lo1), .val (.int hi1), .val (.int lo2), .val (.int hi2), .val (.int s0), .val (.int t1), .val (.int t2), .val (.int s3), .val (.int s1), .val (.int s2), .val (.int ct), .val (.ref b), .unset] [(.int s2), (.int (4 : Int32)), (.ref b)])) _
    refine st16 _ ?_
    show Steps p.tables e below (T16.setTop (mkF m 127 #[.val (.int p1), .val (.int p2), .val (.int p3), .val (.int p4), .val (.int p5), .val (.int p6), .val (.int lo1), .val (.int hi1), .val (.int lo2), .val (.int hi2), .val (.int s0), .val (.int t1), .val (.int t2), .val (.int s3), .val (.int s1), .val (.int s2), .val (.int ct), .val (.ref b), .unset] [])) _
    refine XS.aload X16.here hx rfl (hb hby at_127) rfl rfl ?_
    show Steps p.tables e below (T16.setTop (mkF m 129 #[.val (.int p1), .val (.int p2), .val (.int p3), .val (.int p4), .val (.int p5), .val (.int p6), .val (.int lo1), .val (.int hi1), .val (.int lo2), .val (.int hi2), .val (.int s0), .val (.int t1), .val (.int t2), .val (.int s3), .val (.int s1), .val (.int s2), .val (.int ct), .val (.ref b), .unset] [(.ref b)])) _
    refine XS.iconst X16.here hx rfl (hb hby at_129) ?_
    show Steps p.tables e below (T16.setTop (mkF m 130 #[.val (.int p1), .val (.int p2), .val (.int p3), .val (.int p4), .val (.int p5), .val (.int p6), .val (.int lo1), .val (.int hi1), .val (.int lo2), .val (.int hi2), .val (.int s0), .val (.int t1), .val (.int t2), .val (.int s3), .val (.int s1), .val (.int s2), .val (.int ct), .val (.ref b), .unset] [(.int (5 : Int32)), (.ref b)])) _
    refine XS.iload X16.here hx rfl (hb hby at_130) rfl ?_
    show Steps p.tables e below (T16.setTop (mkF m 132 #[.val (.int p1), .val (.int p2), .val (.int p3), .val (.int p4), .val (.int p5), .val (.int p6), .val (.int lo1), .val (.int hi1), .val (.int lo2), .val (.int hi2), .val (.int s0), .val (.int t1), .val (.int t2), .val (.int s3), .val (.int s1), .val (.int s2), .val (.int ct), .val (.ref b), .unset] [(.int s1), (.int (5 : Int32)), (.ref b)])) _
    refine st17 _ ?_
    show Steps p.tables e below (T17.setTop (mkF m 133 #[.val (.int p1), .val (.int p2), .val (.int p3), .val (.int p4), .val (.int p5), .val (.int p6), .val (.int lo1), .val (.int hi1), .val (.int lo2), .val (.int hi2), .val (.int s0), .val (.int t1), .val (.int t2), .val (.int s3), .val (.int s1), .val (.int s2), .val (.int ct), .val (.ref b), .unset] [])) _
    refine XS.aload X17.here hx rfl (hb hby at_133) rfl rfl ?_
    show Steps p.tables e below (T17.setTop (mkF m 135 #[.val (.int p1), .val (.int p2), .val (.int p3), .val (.int p4), .val (.int p5), .val (.int p6), .val (.int lo1), .val (.int hi1), .val (.int lo2), .val (.int hi2), .val (.int s0), .val (.int t1), .val (.int t2), .val (.int s3), .val (.int s1), .val (.int s2), .val (.int ct), .val (.ref b), .unset] [(.ref b)])) _
    refine XS.bipush X17.here hx rfl (hb hby at_135) ?_
    show Steps p.tables e below (T17.setTop (mkF m 137 #[.val (.int p1), .val (.int p2), .val (.int p3), .val (.int p4), .val (.int p5), .val (.int p6), .val (.int lo1), .val (.int hi1), .val (.int lo2), .val (.int hi2), .val (.int s0), .val (.int t1), .val (.int t2), .val (.int s3), .val (.int s1), .val (.int s2), .val (.int ct), .val (.ref b), .unset] [(.int (6 : Int32)), (.ref b)])) _
    refine XS.iload X17.here hx rfl (hb hby at_137) rfl ?_
    show Steps p.tables e below (T17.setTop (mkF m 139 #[.val (.int p1), .val (.int p2), .val (.int p3), .val (.int p4), .val (.int p5), .val (.int p6), .val (.int lo1), .val (.int hi1), .val (.int lo2), .val (.int hi2), .val (.int s0), .val (.int t1), .val (.int t2), .val (.int s3), .val (.int s1), .val (.int s2), .val (.int ct), .val (.ref b), .unset] [(.int s3), (.int (6 : Int32)), (.ref b)])) _
    refine st18 _ ?_
    show Steps p.tables e below (T18.setTop (mkF m 140 #[.val (.int p1), .val (.int p2), .val (.int p3), .val (.int p4), .val (.int p5), .val (.int p6), .val (.int lo1), .val (.int hi1), .val (.int lo2), .val (.int hi2), .val (.int s0), .val (.int t1), .val (.int t2), .val (.int s3), .val (.int s1), .val (.int s2), .val (.int ct), .val (.ref b), .unset] [])) _
    refine XS.aload X18.here hx rfl (hb hby at_140) rfl rfl ?_
    show Steps p.tables e below (T18.setTop (mkF m 142 #[.val (.int p1), .val (.int p2), .val (.int p3), .val (.int p4), .val (.int p5), .val (.int p6), .val (.int lo1), .val (.int hi1), .val (.int lo2), .val (.int hi2), .val (.int s0), .val (.int t1), .val (.int t2), .val (.int s3), .val (.int s1), .val (.int s2), .val (.int ct), .val (.ref b), .unset] [(.ref b)])) _
    refine XS.bipush X18.here hx rfl (hb hby at_142) ?_
    show Steps p.tables e below (T18.setTop (mkF m 144 #[.val (.int p1), .val (.int p2), .val (.int p3), .val (.int p4), .val (.int p5), .val (.int p6), .val (.int lo1), .val (.int hi1), .val (.int lo2), .val (.int hi2), .val (.int s0), .val (.int t1), .val (.int t2), .val (.int s3), .val (.int s1), .val (.int s2), .val (.int ct), .val (.ref b), .unset] [(.int (7 : Int32)), (.ref b)])) _
    refine XS.iload X18.here hx rfl (hb hby at_144) rfl ?_
    show Steps p.tables e below (T18.setTop (mkF m 146 #[.val (.int p1), .val (.int p2), .val (.int p3), .val (.int p4), .val (.int p5), .val (.int p6), .val (.int lo1), .val (.int hi1), .val (.int lo2), .val (.int hi2), .val (.int s0), .val (.int t1), .val (.int t2), .val (.int s3), .val (.int s1), .val (.int s2), .val (.int ct), .val (.ref b), .unset] [(.int s0), (.int (7 : Int32)), (.ref b)])) _
    refine st19 _ ?_
    show Steps p.tables e below (T19.setTop (mkF m 147 #[.val (.int p1), .val (.int p2), .val (.int p3), .val (.int p4), .val (.int p5), .val (.int p6), .val (.int lo1), .val (.int hi1), .val (.int lo2), .val (.int hi2), .val (.int s0), .val (.int t1), .val (.int t2), .val (.int s3), .val (.int s1), .val (.int s2), .val (.int ct), .val (.ref b), .unset] [])) _
    refine XS.iload X19.here hx rfl (hb hby at_147) rfl ?_
    show Steps p.tables e below (T19.setTop (mkF m 149 #[.val (.int p1), .val (.int p2), .val (.int p3), .val (.int p4), .val (.int p5), .val (.int p6), .val (.int lo1), .val (.int hi1), .val (.int lo2), .val (.int hi2), .val (.int s0), .val (.int t1), .val (.int t2), .val (.int s3), .val (.int s1), .val (.int s2), .val (.int ct), .val (.ref b), .unset] [(.int ct)])) _
    refine (show ∀ tt, Steps p.tables e below (T19.setTop (mkF m 157 #[.val (.int p1), .val (.int p2), .val (.int p3), .val (.int p4), .val (.int p5), .val (.int p6), .val (.int lo1), .val (.int hi1), .val (.int lo2), .val (.int hi2), .val (.int s0), .val (.int t1), .val (.int t2), .val (.int s3), .val (.int s1), .val (.int s2), .val (.int ct), .val (.ref b), .unset] [(.int c0)])) tt → Steps p.tables e below (T19.setTop (mkF m 149 #[.val (.int p1), .val (.int p2), .val (.int p3), .val (.int p4), .val (.int p5), .val (.int p6), .val (.int lo1), .val (.int hi1), .val (.int lo2), .val (.int hi2), .val (.int s0), .val (.int t1), .val (.int t2), .val (.int s3), .val (.int s1), .val (.int s2), .val (.int ct), .val (.ref b), .unset] [(.int ct)])) tt from ?_) _ ?_
    · intro tt kt
      by_cases cc : (0 : Int32) < ct
      · rw [h_c0, if_pos cc] at kt
        show Steps p.tables e below (T19.setTop (mkF m 149 #[.val (.int p1), .val (.int p2), .val (.int p3), .val (.int p4), .val (.int p5), .val (.int p6), .val (.int lo1), .val (.int hi1), .val (.int lo2), .val (.int hi2), .val (.int s0), .val (.int t1), .val (.int t2), .val (.int s3), .val (.int s1), .val (.int s2), .val (.int ct), .val (.ref b), .unset] [(.int ct)])) _
        refine XS.ifNo X19.here hx rfl (hb hby at_149) rfl ((if0 _ _).trans (tlt cc).2.2.2) ?_
        show Steps p.tables e below (T19.setTop (mkF m 152 #[.val (.int p1), .val (.int p2), .val (.int p3), .val (.int p4), .val (.int p5), .val (.int p6), .val (.int lo1), .val (.int hi1), .val (.int lo2), .val (.int hi2), .val (.int s0), .val (.int t1), .val (.int t2), .val (.int s3), .val (.int s1), .val (.int s2), .val (.int ct), .val (.ref b), .unset] [])) _
        refine XS.iconst X19.here hx rfl (hb hby at_152) ?_
        show Steps p.tables e below (T19.setTop (mkF m 153 #[.val (.int p1), .val (.int p2), .val (.int p3), .val (.int p4), .val (.int p5), .val (.int p6), .val (.int lo1), .val (.int hi1), .val (.int lo2), .val (.int hi2), .val (.int s0), .val (.int t1), .val (.int t2), .val (.int s3), .val (.int s1), .val (.int s2), .val (.int ct), .val (.ref b), .unset] [(.int (1 : Int32))])) _
        refine XS.goto X19.here hx rfl (pc0 := 153) (pc' := 157) rfl (hb hby at_153) (by decide) (by decide) ?_
        exact kt
      · rw [h_c0, if_neg cc] at kt
        show Steps p.tables e below (T19.setTop (mkF m 149 #[.val (.int p1), .val (.int p2), .val (.int p3), .val (.int p4), .val (.int p5), .val (.int p6), .val (.int lo1), .val (.int hi1), .val (.int lo2), .val (.int hi2), .val (.int s0), .val (.int t1), .val (.int t2), .val (.int s3), .val (.int s1), .val (.int s2), .val (.int ct), .val (.ref b), .unset] [(.int ct)])) _
        refine XS.ifYes X19.here hx rfl (pc0 := 149) (pc' := 156) rfl (hb hby at_149) rfl ((if0 _ _).trans (flt cc).2.2.2) (by decide) (by decide) ?_
        show Steps p.tables e below (T19.setTop (mkF m 156 #[.val (.int p1), .val (.int p2), .val (.int p3), .val (.int p4), .val (.int p5), .val (.int p6), .val (.int lo1), .val (.int hi1), .val (.int lo2), .val (.int hi2), .val (.int s0), .val (.int t1), .val (.int t2), .val (.int s3), .val (.int s1), .val (.int s2), .val (.int ct), .val (.ref b), .unset] [])) _
        refine XS.iconst X19.here hx rfl (hb hby at_156) ?_
        exact kt
    show Steps p.tables e below (T19.setTop (mkF m 157 #[.val (.int p1), .val (.int p2), .val (.int p3), .val (.int p4), .val (.int p5), .val (.int p6), .val (.int lo1), .val (.int hi1), .val (.int lo2), .val (.int hi2), .val (.int s0), .val (.int t1), .val (.int t2), .val (.int s3), .val (.int s1), .val (.int s2), .val (.int ct), .val (.ref b), .unset] [(.int c0)])) _
    refine XS.iload X19.here hx rfl (hb hby at_157) rfl ?_
    show Steps p.tables e below (T19.setTop (mkF m 159 #[.val (.int p1), .val (.int p2), .val (.int p3), .val (.int p4), .val (.int p5), .val (.int p6), .val (.int lo1), .val (.int hi1), .val (.int lo2), .val (.int hi2), .val (.int s0), .val (.int t1), .val (.int t2), .val (.int s3), .val (.int s1), .val (.int s2), .val (.int ct), .val (.ref b), .unset] [(.int s0), (.int c0)])) _
    refine XS.iload X19.here hx rfl (hb hby at_159) rfl ?_
    show Steps p.tables e below (T19.setTop (mkF m 161 #[.val (.int p1), .val (.int p2), .val (.int p3), .val (.int p4), .val (.int p5), .val (.int p6), .val (.int lo1), .val (.int hi1), .val (.int lo2), .val (.int hi2), .val (.int s0), .val (.int t1), .val (.int t2), .val (.int s3), .val (.int s1), .val (.int s2), .val (.int ct), .val (.ref b), .unset] [(.int p6), (.int s0), (.int c0)])) _
    refine st20 _ ?_
    show Steps p.tables e below (T20.setTop (mkF m 164 #[.val (.int p1), .val (.int p2), .val (.int p3), .val (.int p4), .val (.int p5), .val (.int p6), .val (.int lo1), .val (.int hi1), .val (.int lo2), .val (.int hi2), .val (.int s0), .val (.int t1), .val (.int t2), .val (.int s3), .val (.int s1), .val (.int s2), .val (.int ct), .val (.ref b), .unset] [(.int (own_at c0 s0 p6))])) _
    refine XS.iload X20.here hx rfl (hb hby at_164) rfl ?_
    show Steps p.tables e below (T20.setTop (mkF m 166 #[.val (.int p1), .val (.int p2), .val (.int p3), .val (.int p4), .val (.int p5), .val (.int p6), .val (.int lo1), .val (.int hi1), .val (.int lo2), .val (.int hi2), .val (.int s0), .val (.int t1), .val (.int t2), .val (.int s3), .val (.int s1), .val (.int s2), .val (.int ct), .val (.ref b), .unset] [(.int ct), (.int (own_at c0 s0 p6))])) _
    refine XS.iconst X20.here hx rfl (hb hby at_166) ?_
    show Steps p.tables e below (T20.setTop (mkF m 167 #[.val (.int p1), .val (.int p2), .val (.int p3), .val (.int p4), .val (.int p5), .val (.int p6), .val (.int lo1), .val (.int hi1), .val (.int lo2), .val (.int hi2), .val (.int s0), .val (.int t1), .val (.int t2), .val (.int s3), .val (.int s1), .val (.int s2), .val (.int ct), .val (.ref b), .unset] [(.int (1 : Int32)), (.int ct), (.int (own_at c0 s0 p6))])) _
    refine (show ∀ tt, Steps p.tables e below (T20.setTop (mkF m 175 #[.val (.int p1), .val (.int p2), .val (.int p3), .val (.int p4), .val (.int p5), .val (.int p6), .val (.int lo1), .val (.int hi1), .val (.int lo2), .val (.int hi2), .val (.int s0), .val (.int t1), .val (.int t2), .val (.int s3), .val (.int s1), .val (.int s2), .val (.int ct), .val (.ref b), .unset] [(.int c1), (.int (own_at c0 s0 p6))])) tt → Steps p.tables e below (T20.setTop (mkF m 167 #[.val (.int p1), .val (.int p2), .val (.int p3), .val (.int p4), .val (.int p5), .val (.int p6), .val (.int lo1), .val (.int hi1), .val (.int lo2), .val (.int hi2), .val (.int s0), .val (.int t1), .val (.int t2), .val (.int s3), .val (.int s1), .val (.int s2), .val (.int ct), .val (.ref b), .unset] [(.int (1 : Int32)), (.int ct), (.int (own_at c0 s0 p6))])) tt from ?_) _ ?_
    · intro tt kt
      by_cases cc : (1 : Int32) < ct
      · rw [h_c1, if_pos cc] at kt
        show Steps p.tables e below (T20.setTop (mkF m 167 #[.val (.int p1), .val (.int p2), .val (.int p3), .val (.int p4), .val (.int p5), .val (.int p6), .val (.int lo1), .val (.int hi1), .val (.int lo2), .val (.int hi2), .val (.int s0), .val (.int t1), .val (.int t2), .val (.int s3), .val (.int s1), .val (.int s2), .val (.int ct), .val (.ref b), .unset] [(.int (1 : Int32)), (.int ct), (.int (own_at c0 s0 p6))])) _
        refine XS.icmpNo X20.here hx rfl (hb hby at_167) rfl (tlt cc).2.2.2 ?_
        show Steps p.tables e below (T20.setTop (mkF m 170 #[.val (.int p1), .val (.int p2), .val (.int p3), .val (.int p4), .val (.int p5), .val (.int p6), .val (.int lo1), .val (.int hi1), .val (.int lo2), .val (.int hi2), .val (.int s0), .val (.int t1), .val (.int t2), .val (.int s3), .val (.int s1), .val (.int s2), .val (.int ct), .val (.ref b), .unset] [(.int (own_at c0 s0 p6))])) _
        refine XS.iconst X20.here hx rfl (hb hby at_170) ?_
        show Steps p.tables e below (T20.setTop (mkF m 171 #[.val (.int p1), .val (.int p2), .val (.int p3), .val (.int p4), .val (.int p5), .val (.int p6), .val (.int lo1), .val (.int hi1), .val (.int lo2), .val (.int hi2), .val (.int s0), .val (.int t1), .val (.int t2), .val (.int s3), .val (.int s1), .val (.int s2), .val (.int ct), .val (.ref b), .unset] [(.int (1 : Int32)), (.int (own_at c0 s0 p6))])) _
        refine XS.goto X20.here hx rfl (pc0 := 171) (pc' := 175) rfl (hb hby at_171) (by decide) (by decide) ?_
        exact kt
      · rw [h_c1, if_neg cc] at kt
        show Steps p.tables e below (T20.setTop (mkF m 167 #[.val (.int p1), .val (.int p2), .val (.int p3), .val (.int p4), .val (.int p5), .val (.int p6), .val (.int lo1), .val (.int hi1), .val (.int lo2), .val (.int hi2), .val (.int s0), .val (.int t1), .val (.int t2), .val (.int s3), .val (.int s1), .val (.int s2), .val (.int ct), .val (.ref b), .unset] [(.int (1 : Int32)), (.int ct), (.int (own_at c0 s0 p6))])) _
        refine XS.icmpYes X20.here hx rfl (pc0 := 167) (pc' := 174) rfl (hb hby at_167) rfl (flt cc).2.2.2 (by decide) (by decide) ?_
        show Steps p.tables e below (T20.setTop (mkF m 174 #[.val (.int p1), .val (.int p2), .val (.int p3), .val (.int p4), .val (.int p5), .val (.int p6), .val (.int lo1), .val (.int hi1), .val (.int lo2), .val (.int hi2), .val (.int s0), .val (.int t1), .val (.int t2), .val (.int s3), .val (.int s1), .val (.int s2), .val (.int ct), .val (.ref b), .unset] [(.int (own_at c0 s0 p6))])) _
        refine XS.iconst X20.here hx rfl (hb hby at_174) ?_
        exact kt
    show Steps p.tables e below (T20.setTop (mkF m 175 #[.val (.int p1), .val (.int p2), .val (.int p3), .val (.int p4), .val (.int p5), .val (.int p6), .val (.int lo1), .val (.int hi1), .val (.int lo2), .val (.int hi2), .val (.int s0), .val (.int t1), .val (.int t2), .val (.int s3), .val (.int s1), .val (.int s2), .val (.int ct), .val (.ref b), .unset] [(.int c1), (.int (own_at c0 s0 p6))])) _
    refine XS.iload X20.here hx rfl (hb hby at_175) rfl ?_
    show Steps p.tables e below (T20.setTop (mkF m 177 #[.val (.int p1), .val (.int p2), .val (.int p3), .val (.int p4), .val (.int p5), .val (.int p6), .val (.int lo1), .val (.int hi1), .val (.int lo2), .val (.int hi2), .val (.int s0), .val (.int t1), .val (.int t2), .val (.int s3), .val (.int s1), .val (.int s2), .val (.int ct), .val (.ref b), .unset] [(.int s1), (.int c1), (.int (own_at c0 s0 p6))])) _
    refine XS.iload X20.here hx rfl (hb hby at_177) rfl ?_
    show Steps p.tables e below (T20.setTop (mkF m 179 #[.val (.int p1), .val (.int p2), .val (.int p3), .val (.int p4), .val (.int p5), .val (.int p6), .val (.int lo1), .val (.int hi1), .val (.int lo2), .val (.int hi2), .val (.int s0), .val (.int t1), .val (.int t2), .val (.int s3), .val (.int s1), .val (.int s2), .val (.int ct), .val (.ref b), .unset] [(.int p6), (.int s1), (.int c1), (.int (own_at c0 s0 p6))])) _
    refine st21 _ ?_
    show Steps p.tables e below (T21.setTop (mkF m 182 #[.val (.int p1), .val (.int p2), .val (.int p3), .val (.int p4), .val (.int p5), .val (.int p6), .val (.int lo1), .val (.int hi1), .val (.int lo2), .val (.int hi2), .val (.int s0), .val (.int t1), .val (.int t2), .val (.int s3), .val (.int s1), .val (.int s2), .val (.int ct), .val (.ref b), .unset] [(.int (own_at c1 s1 p6)), (.int (own_at c0 s0 p6))])) _
    refine XS.iadd X21.here hx rfl (hb hby at_182) rfl ?_
    show Steps p.tables e below (T21.setTop (mkF m 183 #[.val (.int p1), .val (.int p2), .val (.int p3), .val (.int p4), .val (.int p5), .val (.int p6), .val (.int lo1), .val (.int hi1), .val (.int lo2), .val (.int hi2), .val (.int s0), .val (.int t1), .val (.int t2), .val (.int s3), .val (.int s1), .val (.int s2), .val (.int ct), .val (.ref b), .unset] [(.int ((own_at c0 s0 p6) + (own_at c1 s1 p6)))])) _
    refine XS.iload X21.here hx rfl (hb hby at_183) rfl ?_
    show Steps p.tables e below (T21.setTop (mkF m 185 #[.val (.int p1), .val (.int p2), .val (.int p3), .val (.int p4), .val (.int p5), .val (.int p6), .val (.int lo1), .val (.int hi1), .val (.int lo2), .val (.int hi2), .val (.int s0), .val (.int t1), .val (.int t2), .val (.int s3), .val (.int s1), .val (.int s2), .val (.int ct), .val (.ref b), .unset] [(.int ct), (.int ((own_at c0 s0 p6) + (own_at c1 s1 p6)))])) _
    refine XS.iconst X21.here hx rfl (hb hby at_185) ?_
    show Steps p.tables e below (T21.setTop (mkF m 186 #[.val (.int p1), .val (.int p2), .val (.int p3), .val (.int p4), .val (.int p5), .val (.int p6), .val (.int lo1), .val (.int hi1), .val (.int lo2), .val (.int hi2), .val (.int s0), .val (.int t1), .val (.int t2), .val (.int s3), .val (.int s1), .val (.int s2), .val (.int ct), .val (.ref b), .unset] [(.int (2 : Int32)), (.int ct), (.int ((own_at c0 s0 p6) + (own_at c1 s1 p6)))])) _
    refine (show ∀ tt, Steps p.tables e below (T21.setTop (mkF m 194 #[.val (.int p1), .val (.int p2), .val (.int p3), .val (.int p4), .val (.int p5), .val (.int p6), .val (.int lo1), .val (.int hi1), .val (.int lo2), .val (.int hi2), .val (.int s0), .val (.int t1), .val (.int t2), .val (.int s3), .val (.int s1), .val (.int s2), .val (.int ct), .val (.ref b), .unset] [(.int c2), (.int ((own_at c0 s0 p6) + (own_at c1 s1 p6)))])) tt → Steps p.tables e below (T21.setTop (mkF m 186 #[.val (.int p1), .val (.int p2), .val (.int p3), .val (.int p4), .val (.int p5), .val (.int p6), .val (.int lo1), .val (.int hi1), .val (.int lo2), .val (.int hi2), .val (.int s0), .val (.int t1), .val (.int t2), .val (.int s3), .val (.int s1), .val (.int s2), .val (.int ct), .val (.ref b), .unset] [(.int (2 : Int32)), (.int ct), (.int ((own_at c0 s0 p6) + (own_at c1 s1 p6)))])) tt from ?_) _ ?_
    · intro tt kt
      by_cases cc : (2 : Int32) < ct
      · rw [h_c2, if_pos cc] at kt
        show Steps p.tables e below (T21.setTop (mkF m 186 #[.val (.int p1), .val (.int p2), .val (.int p3), .val (.int p4), .val (.int p5), .val (.int p6), .val (.int lo1), .val (.int hi1), .val (.int lo2), .val (.int hi2), .val (.int s0), .val (.int t1), .val (.int t2), .val (.int s3), .val (.int s1), .val (.int s2), .val (.int ct), .val (.ref b), .unset] [(.int (2 : Int32)), (.int ct), (.int ((own_at c0 s0 p6) + (own_at c1 s1 p6)))])) _
        refine XS.icmpNo X21.here hx rfl (hb hby at_186) rfl (tlt cc).2.2.2 ?_
        show Steps p.tables e below (T21.setTop (mkF m 189 #[.val (.int p1), .val (.int p2), .val (.int p3), .val (.int p4), .val (.int p5), .val (.int p6), .val (.int lo1), .val (.int hi1), .val (.int lo2), .val (.int hi2), .val (.int s0), .val (.int t1), .val (.int t2), .val (.int s3), .val (.int s1), .val (.int s2), .val (.int ct), .val (.ref b), .unset] [(.int ((own_at c0 s0 p6) + (own_at c1 s1 p6)))])) _
        refine XS.iconst X21.here hx rfl (hb hby at_189) ?_
        show Steps p.tables e below (T21.setTop (mkF m 190 #[.val (.int p1), .val (.int p2), .val (.int p3), .val (.int p4), .val (.int p5), .val (.int p6), .val (.int lo1), .val (.int hi1), .val (.int lo2), .val (.int hi2), .val (.int s0), .val (.int t1), .val (.int t2), .val (.int s3), .val (.int s1), .val (.int s2), .val (.int ct), .val (.ref b), .unset] [(.int (1 : Int32)), (.int ((own_at c0 s0 p6) + (own_at c1 s1 p6)))])) _
        refine XS.goto X21.here hx rfl (pc0 := 190) (pc' := 194) rfl (hb hby at_190) (by decide) (by decide) ?_
        exact kt
      · rw [h_c2, if_neg cc] at kt
        show Steps p.tables e below (T21.setTop (mkF m 186 #[.val (.int p1), .val (.int p2), .val (.int p3), .val (.int p4), .val (.int p5), .val (.int p6), .val (.int lo1), .val (.int hi1), .val (.int lo2), .val (.int hi2), .val (.int s0), .val (.int t1), .val (.int t2), .val (.int s3), .val (.int s1), .val (.int s2), .val (.int ct), .val (.ref b), .unset] [(.int (2 : Int32)), (.int ct), (.int ((own_at c0 s0 p6) + (own_at c1 s1 p6)))])) _
        refine XS.icmpYes X21.here hx rfl (pc0 := 186) (pc' := 193) rfl (hb hby at_186) rfl (flt cc).2.2.2 (by decide) (by decide) ?_
        show Steps p.tables e below (T21.setTop (mkF m 193 #[.val (.int p1), .val (.int p2), .val (.int p3), .val (.int p4), .val (.int p5), .val (.int p6), .val (.int lo1), .val (.int hi1), .val (.int lo2), .val (.int hi2), .val (.int s0), .val (.int t1), .val (.int t2), .val (.int s3), .val (.int s1), .val (.int s2), .val (.int ct), .val (.ref b), .unset] [(.int ((own_at c0 s0 p6) + (own_at c1 s1 p6)))])) _
        refine XS.iconst X21.here hx rfl (hb hby at_193) ?_
        exact kt
    show Steps p.tables e below (T21.setTop (mkF m 194 #[.val (.int p1), .val (.int p2), .val (.int p3), .val (.int p4), .val (.int p5), .val (.int p6), .val (.int lo1), .val (.int hi1), .val (.int lo2), .val (.int hi2), .val (.int s0), .val (.int t1), .val (.int t2), .val (.int s3), .val (.int s1), .val (.int s2), .val (.int ct), .val (.ref b), .unset] [(.int c2), (.int ((own_at c0 s0 p6) + (own_at c1 s1 p6)))])) _
    refine XS.iload X21.here hx rfl (hb hby at_194) rfl ?_
    show Steps p.tables e below (T21.setTop (mkF m 196 #[.val (.int p1), .val (.int p2), .val (.int p3), .val (.int p4), .val (.int p5), .val (.int p6), .val (.int lo1), .val (.int hi1), .val (.int lo2), .val (.int hi2), .val (.int s0), .val (.int t1), .val (.int t2), .val (.int s3), .val (.int s1), .val (.int s2), .val (.int ct), .val (.ref b), .unset] [(.int s2), (.int c2), (.int ((own_at c0 s0 p6) + (own_at c1 s1 p6)))])) _
    refine XS.iload X21.here hx rfl (hb hby at_196) rfl ?_
    show Steps p.tables e below (T21.setTop (mkF m 198 #[.val (.int p1), .val (.int p2), .val (.int p3), .val (.int p4), .val (.int p5), .val (.int p6), .val (.int lo1), .val (.int hi1), .val (.int lo2), .val (.int hi2), .val (.int s0), .val (.int t1), .val (.int t2), .val (.int s3), .val (.int s1), .val (.int s2), .val (.int ct), .val (.ref b), .unset] [(.int p6), (.int s2), (.int c2), (.int ((own_at c0 s0 p6) + (own_at c1 s1 p6)))])) _
    refine st22 _ ?_
    show Steps p.tables e below (T22.setTop (mkF m 201 #[.val (.int p1), .val (.int p2), .val (.int p3), .val (.int p4), .val (.int p5), .val (.int p6), .val (.int lo1), .val (.int hi1), .val (.int lo2), .val (.int hi2), .val (.int s0), .val (.int t1), .val (.int t2), .val (.int s3), .val (.int s1), .val (.int s2), .val (.int ct), .val (.ref b), .unset] [(.int (own_at c2 s2 p6)), (.int ((own_at c0 s0 p6) + (own_at c1 s1 p6)))])) _
    refine XS.iadd X22.here hx rfl (hb hby at_201) rfl ?_
    show Steps p.tables e below (T22.setTop (mkF m 202 #[.val (.int p1), .val (.int p2), .val (.int p3), .val (.int p4), .val (.int p5), .val (.int p6), .val (.int lo1), .val (.int hi1), .val (.int lo2), .val (.int hi2), .val (.int s0), .val (.int t1), .val (.int t2), .val (.int s3), .val (.int s1), .val (.int s2), .val (.int ct), .val (.ref b), .unset] [(.int (((own_at c0 s0 p6) + (own_at c1 s1 p6)) + (own_at c2 s2 p6)))])) _
    refine XS.iload X22.here hx rfl (hb hby at_202) rfl ?_
    show Steps p.tables e below (T22.setTop (mkF m 204 #[.val (.int p1), .val (.int p2), .val (.int p3), .val (.int p4), .val (.int p5), .val (.int p6), .val (.int lo1), .val (.int hi1), .val (.int lo2), .val (.int hi2), .val (.int s0), .val (.int t1), .val (.int t2), .val (.int s3), .val (.int s1), .val (.int s2), .val (.int ct), .val (.ref b), .unset] [(.int ct), (.int (((own_at c0 s0 p6) + (own_at c1 s1 p6)) + (own_at c2 s2 p6)))])) _
    refine XS.iconst X22.here hx rfl (hb hby at_204) ?_
    show Steps p.tables e below (T22.setTop (mkF m 205 #[.val (.int p1), .val (.int p2), .val (.int p3), .val (.int p4), .val (.int p5), .val (.int p6), .val (.int lo1), .val (.int hi1), .val (.int lo2), .val (.int hi2), .val (.int s0), .val (.int t1), .val (.int t2), .val (.int s3), .val (.int s1), .val (.int s2), .val (.int ct), .val (.ref b), .unset] [(.int (3 : Int32)), (.int ct), (.int (((own_at c0 s0 p6) + (own_at c1 s1 p6)) + (own_at c2 s2 p6)))])) _
    refine (show ∀ tt, Steps p.tables e below (T22.setTop (mkF m 213 #[.val (.int p1), .val (.int p2), .val (.int p3), .val (.int p4), .val (.int p5), .val (.int p6), .val (.int lo1), .val (.int hi1), .val (.int lo2), .val (.int hi2), .val (.int s0), .val (.int t1), .val (.int t2), .val (.int s3), .val (.int s1), .val (.int s2), .val (.int ct), .val (.ref b), .unset] [(.int c3), (.int (((own_at c0 s0 p6) + (own_at c1 s1 p6)) + (own_at c2 s2 p6)))])) tt → Steps p.tables e below (T22.setTop (mkF m 205 #[.val (.int p1), .val (.int p2), .val (.int p3), .val (.int p4), .val (.int p5), .val (.int p6), .val (.int lo1), .val (.int hi1), .val (.int lo2), .val (.int hi2), .val (.int s0), .val (.int t1), .val (.int t2), .val (.int s3), .val (.int s1), .val (.int s2), .val (.int ct), .val (.ref b), .unset] [(.int (3 : Int32)), (.int ct), (.int (((own_at c0 s0 p6) + (own_at c1 s1 p6)) + (own_at c2 s2 p6)))])) tt from ?_) _ ?_
    · intro tt kt
      by_cases cc : (3 : Int32) < ct
      · rw [h_c3, if_pos cc] at kt
        show Steps p.tables e below (T22.setTop (mkF m 205 #[.val (.int p1), .val (.int p2), .val (.int p3), .val (.int p4), .val (.int p5), .val (.int p6), .val (.int lo1), .val (.int hi1), .val (.int lo2), .val (.int hi2), .val (.int s0), .val (.int t1), .val (.int t2), .val (.int s3), .val (.int s1), .val (.int s2), .val (.int ct), .val (.ref b), .unset] [(.int (3 : Int32)), (.int ct), (.int (((own_at c0 s0 p6) + (own_at c1 s1 p6)) + (own_at c2 s2 p6)))])) _
        refine XS.icmpNo X22.here hx rfl (hb hby at_205) rfl (tlt cc).2.2.2 ?_
        show Steps p.tables e below (T22.setTop (mkF m 208 #[.val (.int p1), .val (.int p2), .val (.int p3), .val (.int p4), .val (.int p5), .val (.int p6), .val (.int lo1), .val (.int hi1), .val (.int lo2), .val (.int hi2), .val (.int s0), .val (.int t1), .val (.int t2), .val (.int s3), .val (.int s1), .val (.int s2), .val (.int ct), .val (.ref b), .unset] [(.int (((own_at c0 s0 p6) + (own_at c1 s1 p6)) + (own_at c2 s2 p6)))])) _
        refine XS.iconst X22.here hx rfl (hb hby at_208) ?_
        show Steps p.tables e below (T22.setTop (mkF m 209 #[.val (.int p1), .val (.int p2), .val (.int p3), .val (.int p4), .val (.int p5), .val (.int p6), .val (.int lo1), .val (.int hi1), .val (.int lo2), .val (.int hi2), .val (.int s0), .val (.int t1), .val (.int t2), .val (.int s3), .val (.int s1), .val (.int s2), .val (.int ct), .val (.ref b), .unset] [(.int (1 : Int32)), (.int (((own_at c0 s0 p6) + (own_at c1 s1 p6)) + (own_at c2 s2 p6)))])) _
        refine XS.goto X22.here hx rfl (pc0 := 209) (pc' := 213) rfl (hb hby at_209) (by decide) (by decide) ?_
        exact kt
      · rw [h_c3, if_neg cc] at kt
        show Steps p.tables e below (T22.setTop (mkF m 205 #[.val (.int p1), .val (.int p2), .val (.int p3), .val (.int p4), .val (.int p5), .val (.int p6), .val (.int lo1), .val (.int hi1), .val (.int lo2), .val (.int hi2), .val (.int s0), .val (.int t1), .val (.int t2), .val (.int s3), .val (.int s1), .val (.int s2), .val (.int ct), .val (.ref b), .unset] [(.int (3 : Int32)), (.int ct), (.int (((own_at c0 s0 p6) + (own_at c1 s1 p6)) + (own_at c2 s2 p6)))])) _
        refine XS.icmpYes X22.here hx rfl (pc0 := 205) (pc' := 212) rfl (hb hby at_205) rfl (flt cc).2.2.2 (by decide) (by decide) ?_
        show Steps p.tables e below (T22.setTop (mkF m 212 #[.val (.int p1), .val (.int p2), .val (.int p3), .val (.int p4), .val (.int p5), .val (.int p6), .val (.int lo1), .val (.int hi1), .val (.int lo2), .val (.int hi2), .val (.int s0), .val (.int t1), .val (.int t2), .val (.int s3), .val (.int s1), .val (.int s2), .val (.int ct), .val (.ref b), .unset] [(.int (((own_at c0 s0 p6) + (own_at c1 s1 p6)) + (own_at c2 s2 p6)))])) _
        refine XS.iconst X22.here hx rfl (hb hby at_212) ?_
        exact kt
    show Steps p.tables e below (T22.setTop (mkF m 213 #[.val (.int p1), .val (.int p2), .val (.int p3), .val (.int p4), .val (.int p5), .val (.int p6), .val (.int lo1), .val (.int hi1), .val (.int lo2), .val (.int hi2), .val (.int s0), .val (.int t1), .val (.int t2), .val (.int s3), .val (.int s1), .val (.int s2), .val (.int ct), .val (.ref b), .unset] [(.int c3), (.int (((own_at c0 s0 p6) + (own_at c1 s1 p6)) + (own_at c2 s2 p6)))])) _
    refine XS.iload X22.here hx rfl (hb hby at_213) rfl ?_
    show Steps p.tables e below (T22.setTop (mkF m 215 #[.val (.int p1), .val (.int p2), .val (.int p3), .val (.int p4), .val (.int p5), .val (.int p6), .val (.int lo1), .val (.int hi1), .val (.int lo2), .val (.int hi2), .val (.int s0), .val (.int t1), .val (.int t2), .val (.int s3), .val (.int s1), .val (.int s2), .val (.int ct), .val (.ref b), .unset] [(.int s3), (.int c3), (.int (((own_at c0 s0 p6) + (own_at c1 s1 p6)) + (own_at c2 s2 p6)))])) _
    refine XS.iload X22.here hx rfl (hb hby at_215) rfl ?_
    show Steps p.tables e below (T22.setTop (mkF m 217 #[.val (.int p1), .val (.int p2), .val (.int p3), .val (.int p4), .val (.int p5), .val (.int p6), .val (.int lo1), .val (.int hi1), .val (.int lo2), .val (.int hi2), .val (.int s0), .val (.int t1), .val (.int t2), .val (.int s3), .val (.int s1), .val (.int s2), .val (.int ct), .val (.ref b), .unset] [(.int p6), (.int s3), (.int c3), (.int (((own_at c0 s0 p6) + (own_at c1 s1 p6)) + (own_at c2 s2 p6)))])) _
    refine st23 _ ?_
    show Steps p.tables e below (T23.setTop (mkF m 220 #[.val (.int p1), .val (.int p2), .val (.int p3), .val (.int p4), .val (.int p5), .val (.int p6), .val (.int lo1), .val (.int hi1), .val (.int lo2), .val (.int hi2), .val (.int s0), .val (.int t1), .val (.int t2), .val (.int s3), .val (.int s1), .val (.int s2), .val (.int ct), .val (.ref b), .unset] [(.int (own_at c3 s3 p6)), (.int (((own_at c0 s0 p6) + (own_at c1 s1 p6)) + (own_at c2 s2 p6)))])) _
    refine XS.iadd X23.here hx rfl (hb hby at_220) rfl ?_
    show Steps p.tables e below (T23.setTop (mkF m 221 #[.val (.int p1), .val (.int p2), .val (.int p3), .val (.int p4), .val (.int p5), .val (.int p6), .val (.int lo1), .val (.int hi1), .val (.int lo2), .val (.int hi2), .val (.int s0), .val (.int t1), .val (.int t2), .val (.int s3), .val (.int s1), .val (.int s2), .val (.int ct), .val (.ref b), .unset] [(.int ((((own_at c0 s0 p6) + (own_at c1 s1 p6)) + (own_at c2 s2 p6)) + (own_at c3 s3 p6)))])) _
    refine XS.istore X23.here hx rfl (hb hby at_221) rfl (l' := #[.val (.int p1), .val (.int p2), .val (.int p3), .val (.int p4), .val (.int p5), .val (.int p6), .val (.int lo1), .val (.int hi1), .val (.int lo2), .val (.int hi2), .val (.int s0), .val (.int t1), .val (.int t2), .val (.int s3), .val (.int s1), .val (.int s2), .val (.int ct), .val (.ref b), .val (.int ((((own_at c0 s0 p6) + (own_at c1 s1 p6)) + (own_at c2 s2 p6)) + (own_at c3 s3 p6)))]) rfl ?_
    show Steps p.tables e below (T23.setTop (mkF m 223 #[.val (.int p1), .val (.int p2), .val (.int p3), .val (.int p4), .val (.int p5), .val (.int p6), .val (.int lo1), .val (.int hi1), .val (.int lo2), .val (.int hi2), .val (.int s0), .val (.int t1), .val (.int t2), .val (.int s3), .val (.int s1), .val (.int s2), .val (.int ct), .val (.ref b), .val (.int ((((own_at c0 s0 p6) + (own_at c1 s1 p6)) + (own_at c2 s2 p6)) + (own_at c3 s3 p6)))] [])) _
    refine XS.aload X23.here hx rfl (hb hby at_223) rfl rfl ?_
    show Steps p.tables e below (T23.setTop (mkF m 225 #[.val (.int p1), .val (.int p2), .val (.int p3), .val (.int p4), .val (.int p5), .val (.int p6), .val (.int lo1), .val (.int hi1), .val (.int lo2), .val (.int hi2), .val (.int s0), .val (.int t1), .val (.int t2), .val (.int s3), .val (.int s1), .val (.int s2), .val (.int ct), .val (.ref b), .val (.int ((((own_at c0 s0 p6) + (own_at c1 s1 p6)) + (own_at c2 s2 p6)) + (own_at c3 s3 p6)))] [(.ref b)])) _
    refine XS.iload X23.here hx rfl (hb hby at_225) rfl ?_
    show Steps p.tables e below (T23.setTop (mkF m 227 #[.val (.int p1), .val (.int p2), .val (.int p3), .val (.int p4), .val (.int p5), .val (.int p6), .val (.int lo1), .val (.int hi1), .val (.int lo2), .val (.int hi2), .val (.int s0), .val (.int t1), .val (.int t2), .val (.int s3), .val (.int s1), .val (.int s2), .val (.int ct), .val (.ref b), .val (.int ((((own_at c0 s0 p6) + (own_at c1 s1 p6)) + (own_at c2 s2 p6)) + (own_at c3 s3 p6)))] [(.int ct), (.ref b)])) _
    refine XS.iload X23.here hx rfl (hb hby at_227) rfl ?_
    show Steps p.tables e below (T23.setTop (mkF m 229 #[.val (.int p1), .val (.int p2), .val (.int p3), .val (.int p4), .val (.int p5), .val (.int p6), .val (.int lo1), .val (.int hi1), .val (.int lo2), .val (.int hi2), .val (.int s0), .val (.int t1), .val (.int t2), .val (.int s3), .val (.int s1), .val (.int s2), .val (.int ct), .val (.ref b), .val (.int ((((own_at c0 s0 p6) + (own_at c1 s1 p6)) + (own_at c2 s2 p6)) + (own_at c3 s3 p6)))] [(.int p6), (.int ct), (.ref b)])) _
    refine st24 _ ?_
    show Steps p.tables e below (T24.setTop (mkF m 232 #[.val (.int p1), .val (.int p2), .val (.int p3), .val (.int p4), .val (.int p5), .val (.int p6), .val (.int lo1), .val (.int hi1), .val (.int lo2), .val (.int hi2), .val (.int s0), .val (.int t1), .val (.int t2), .val (.int s3), .val (.int s1), .val (.int s2), .val (.int ct), .val (.ref b), .val (.int ((((own_at c0 s0 p6) + (own_at c1 s1 p6)) + (own_at c2 s2 p6)) + (own_at c3 s3 p6)))] [(.int (Int32.ofNat (own_bs (own_v s0 s1 s2 s3) p6 4 0 n)))])) _
    refine XS.iload X24.here hx rfl (hb hby at_232) rfl ?_
    show Steps p.tables e below (T24.setTop (mkF m 234 #[.val (.int p1), .val (.int p2), .val (.int p3), .val (.int p4), .val (.int p5), .val (.int p6), .val (.int lo1), .val (.int hi1), .val (.int lo2), .val (.int hi2), .val (.int s0), .val (.int t1), .val (.int t2), .val (.int s3), .val (.int s1), .val (.int s2), .val (.int ct), .val (.ref b), .val (.int ((((own_at c0 s0 p6) + (own_at c1 s1 p6)) + (own_at c2 s2 p6)) + (own_at c3 s3 p6)))] [(.int ((((own_at c0 s0 p6) + (own_at c1 s1 p6)) + (own_at c2 s2 p6)) + (own_at c3 s3 p6))), (.int (Int32.ofNat (own_bs (own_v s0 s1 s2 s3) p6 4 0 n)))])) _
    refine XS.icmpNo X24.here hx rfl (hb hby at_234) rfl (teq hpl.symm).2 ?_
    show Steps p.tables e below (T24.setTop (mkF m 237 #[.val (.int p1), .val (.int p2), .val (.int p3), .val (.int p4), .val (.int p5), .val (.int p6), .val (.int lo1), .val (.int hi1), .val (.int lo2), .val (.int hi2), .val (.int s0), .val (.int t1), .val (.int t2), .val (.int s3), .val (.int s1), .val (.int s2), .val (.int ct), .val (.ref b), .val (.int ((((own_at c0 s0 p6) + (own_at c1 s1 p6)) + (own_at c2 s2 p6)) + (own_at c3 s3 p6)))] [])) _
    refine XS.iconst X24.here hx rfl (hb hby at_237) ?_
    show Steps p.tables e below (T24.setTop (mkF m 238 #[.val (.int p1), .val (.int p2), .val (.int p3), .val (.int p4), .val (.int p5), .val (.int p6), .val (.int lo1), .val (.int hi1), .val (.int lo2), .val (.int hi2), .val (.int s0), .val (.int t1), .val (.int t2), .val (.int s3), .val (.int s1), .val (.int s2), .val (.int ct), .val (.ref b), .val (.int ((((own_at c0 s0 p6) + (own_at c1 s1 p6)) + (own_at c2 s2 p6)) + (own_at c3 s3 p6)))] [(.int (1 : Int32))])) _
    refine XS.goto X24.here hx rfl (pc0 := 238) (pc' := 242) rfl (hb hby at_238) (by decide) (by decide) ?_
    show Steps p.tables e below (T24.setTop (mkF m 242 #[.val (.int p1), .val (.int p2), .val (.int p3), .val (.int p4), .val (.int p5), .val (.int p6), .val (.int lo1), .val (.int hi1), .val (.int lo2), .val (.int hi2), .val (.int s0), .val (.int t1), .val (.int t2), .val (.int s3), .val (.int s1), .val (.int s2), .val (.int ct), .val (.ref b), .val (.int ((((own_at c0 s0 p6) + (own_at c1 s1 p6)) + (own_at c2 s2 p6)) + (own_at c3 s3 p6)))] [(.int (1 : Int32))])) _
    exact retN X24 hx (t := .boolean) Bd.returns (by simp) (hb hby at_242) hr
  · show Q_law Z p1 p2 p3 p4 p5 p6 h0 n0 _ T24.heap _
    rw [e24]
    exact ⟨rfl, N24⟩
set_option maxRecDepth 65536 in
set_option maxHeartbeats 40000000 in
theorem comes_1 {Post : Tables → Env → Array Value → State → Outcome → State → Prop} (hpost : ∀ tb e args s v u, (limb_1_1.after args s (.returned v) u = true ∧ limb_1_2.after args s (.returned v) u = true ∧ True) → FrameEnd s (.returned v) u (Jvm.fieldLocs frame_1_writes args s ++ Jvm.arrayLocs frame_1_arrays args s ++ Jvm.staticLocs frame_1_statics s) 16 128 → Post tb e args s (.returned v) u) :
    ArmFor flags0 classFile x code maxLocals ret World_1 tables_1 room_1 Calls_1 rest_1 Pre_1 Post := by
  intro l hfl _ _ p e ha hc hk s m args below hf hA hF happ hP
  obtain ⟨hcalls, hrest, hpre⟩ := hP
  obtain ⟨-, -, -, hnamed, -, -, -, hat⟩ := (Spec.applies_iff hf).mp happ
  obtain ⟨hg, hn⟩ := and_e (Cond.before_iff.mp (show (Jvm.Cond.and given_1 narrow_1).before args s = true from hpre))
  obtain ⟨hcount, hg0⟩ := and_e hg
  obtain ⟨ga0, hg1⟩ := and_e hg0
  obtain ⟨ga1, hg2⟩ := and_e hg1
  obtain ⟨ga2, hg3⟩ := and_e hg2
  obtain ⟨ga3, hg4⟩ := and_e hg3
  obtain ⟨ga4, hg5⟩ := and_e hg4
  have ga5 := hg5
  obtain ⟨w0, w1, w2, w3, w4, w5, rfl⟩ : ∃ w0 w1 w2 w3 w4 w5 : Value, args = #[w0, w1, w2, w3, w4, w5] := by
    have hs : args.size = 6 := by simpa [Cond.value, given_1] using hcount
    obtain ⟨L⟩ := args
    match L, hs with
    | [w0, w1, w2, w3, w4, w5], _ => exact ⟨w0, w1, w2, w3, w4, w5, rfl⟩
  have hw := fun d (hd : d ∈ tables_1) => atoms_spec (ws := Jvm.Cond.code x code maxLocals ret :: tables_1) hat d (List.mem_cons_of_mem _ hd)
  obtain ⟨i0, ei0⟩ := is_v ga0
  obtain rfl : w0 = (.int i0) := Option.some.inj ei0
  obtain ⟨i1, ei1⟩ := is_v ga1
  obtain rfl : w1 = (.int i1) := Option.some.inj ei1
  obtain ⟨i2, ei2⟩ := is_v ga2
  obtain rfl : w2 = (.int i2) := Option.some.inj ei2
  obtain ⟨i3, ei3⟩ := is_v ga3
  obtain rfl : w3 = (.int i3) := Option.some.inj ei3
  obtain ⟨i4, ei4⟩ := is_v ga4
  obtain rfl : w4 = (.int i4) := Option.some.inj ei4
  obtain ⟨i5, ei5⟩ := is_v ga5
  obtain rfl : w5 = (.int i5) := Option.some.inj ei5
  obtain ⟨n, o, h1, h2, h3, _, L, rfl, ⟨rfl, N⟩, hq⟩ := rm_law l s _ hw tables_1 i0 i1 i2 i3 i4 i5 s.heap s.heap.size (Nat.le_refl _) p e ha hc hk s m _ below hf ((Spec.applies_iff_loose hf).mp happ).1 ⟨rfl, State.Warmed39.refl s, rfl⟩ trivial
  refine ⟨n, _, h1, h2, h3, hpost _ _ _ _ _ _ ⟨Cond.after_iff.mpr rfl, Cond.after_iff.mpr (eq_i res_at (Term.int_eval (1)) rfl), trivial⟩ ⟨hq.1, hq.2.1, (hq.2.2.sift fun y hy => Or.inr (N y hy)).mono (by decide) (by decide)⟩⟩
theorem main_1_1 : Claimed_1_1 := comes_1 fun _ _ _ _ _ _ h hF => ⟨h.1, hF⟩
theorem main_1_2 : Claimed_1_2 := comes_1 fun _ _ _ _ _ _ h hF => ⟨h.2.1, hF⟩
end Jvm.Pilot.@@N@@
namespace Jvm.Pilot.@@N@@
open Jvm Jvm.ClassFile Sem Op Lib Jvm.Free Jvm.Stand Jvm.Pilot.@@N@@.Jvm.D
/-! MADE BY PROGRAM (witnessworld.py) out of the Statement's table words and the real class files: 10 classes; the members and pool entries that the words name. The judged class is class 1, her method 2. -/
namespace start1
open Jvm.ClassFile
def u (s : String) : CpInfo := .utf8 (stringToUtf16 s)
/-- a pool by its gaps: so many unusable entries, then the entry; so many at the end -/
def gap : Nat → List CpInfo → List CpInfo
  | 0, r => r
  | n + 1, r => .unusable :: gap n r
def poolList (es : List (Nat × CpInfo)) (last : Nat) : List CpInfo := es.foldr (fun e r => gap e.1 (e.2 :: r)) (gap last [])
def pool (es : List (Nat × CpInfo)) (last : Nat) : Array CpInfo := ⟨poolList es last⟩
def fileOf (pool : Array CpInfo) (this : Nat) (attrs : Array Attribute := #[]) (ms : Array MethodInfo := #[]) (fl : Nat := 33) (sup : Nat := 0) (ifs : Array Nat := #[]) (fds : Array FieldInfo := #[]) : ClassFile where
  minorVersion := 0
  majorVersion := 65
  constantPool := pool
  accessFlags := fl
  thisClass := this
  superClass := sup
  interfaces := ifs
  fields := fds
  methods := ms
  attributes := attrs
def plain (name : String) (sup : Option ClassId) : Class where
  name := name
  kind := .ordinary
  loader := none
  accessFlags := 33
  super := sup
  interfaces := #[]
  cf := none
  fields := #[]
  methods := #[]
  instanceTypes := #[]
  staticTypes := #[]
  resolved := #[]
  callSites := []
  init := .initialized
  statics := none
  mirror := none

def pool0 : Array CpInfo := pool [(5, u "<init>"), (0, u "()V"), (1, .class_ 10), (1, u "java/lang/Object")] 113

def k0m0 : Method := { name := "<init>", desc := "()V", sig := { parameters := [], returnType := none }, accessFlags := 1, code := none }
/-- java/lang/Object -/
def k0 : Class := { plain "java/lang/Object" none with
  accessFlags := 33
  interfaces := #[]
  cf := some (fileOf pool0 8 #[] #[{ accessFlags := 1, nameIndex := 5, descriptorIndex := 6, attributes := #[] }] 33 0 #[] #[])
  fields := #[]
  methods := #[k0m0]
  instanceTypes := #[]
  staticTypes := #[]
  resolved := Array.replicate 124 none
  statics := none }

def pool1 : Array CpInfo := pool [(2, .class_ 4), (1, u "java/lang/Object"), (0, u "<init>"), (0, u "()V"), (0, .methodref 8 9), (0, .class_ 10), (0, .nameAndType 11 12), (0, u "java/lang/Math"), (0, u "min"), (0, u "(II)I"), (0, .methodref 8 14), (0, .nameAndType 15 12), (0, u "max"), (0, .methodref 17 18), (0, .class_ 19), (0, .nameAndType 20 21), (0, u "com/example/tollgate/tollgate/replay/StartPairsStartingByPinLaw"), (0, u "at"), (0, u "(ZII)I"), (0, .methodref 23 24), (0, .class_ 25), (0, .nameAndType 26 27), (0, u "com/example/tollgate/tollgate/replay/StartPairs"), (0, u "startingBy"), (0, u "([III)I"), (3, u "law"), (0, u "(IIIIII)Z")] 4

def k1m0 : Method := { name := "<init>", desc := "()V", sig := { parameters := [], returnType := none }, accessFlags := 2, code := none }
def k1c1 : Code := { maxStack := 2, maxLocals := 3, code := method_2_code, exceptionTable := #[], attributes := #[] }
def k1m1 : Method := { name := "at", desc := "(ZII)I", sig := { parameters := [.boolean, .int, .int], returnType := some .int }, accessFlags := 10, code := some k1c1 }
def k1c2 : Code := { maxStack := 4, maxLocals := 19, code := code, exceptionTable := #[], attributes := #[] }
def k1m2 : Method := { name := "law", desc := "(IIIIII)Z", sig := { parameters := [.int, .int, .int, .int, .int, .int], returnType := some .boolean }, accessFlags := 9, code := some k1c2 }
/-- com/example/tollgate/tollgate/replay/StartPairsStartingByPinLaw -/
def k1 : Class := { plain "com/example/tollgate/tollgate/replay/StartPairsStartingByPinLaw" (some 0) with
  accessFlags := 49
  interfaces := #[]
  cf := some (fileOf pool1 17 #[] #[{ accessFlags := 2, nameIndex := 5, descriptorIndex := 6, attributes := #[] }, { accessFlags := 10, nameIndex := 20, descriptorIndex := 21, attributes := #[] }, { accessFlags := 9, nameIndex := 31, descriptorIndex := 32, attributes := #[] }] 49 2 #[] #[])
  fields := #[]
  methods := #[k1m0, k1m1, k1m2]
  instanceTypes := #[]
  staticTypes := #[]
  resolved := Array.replicate 37 none
  statics := none }

def pool2 : Array CpInfo := pool [(1, .class_ 2), (0, u "java/lang/Math"), (1, .class_ 6), (1, u "java/lang/Object"), (0, u "<init>"), (0, u "()V"), (89, .class_ 100), (1, u "java/lang/Math$RandomNumberGeneratorHolder"), (71, u "negativeZeroFloatBits"), (0, u "J"), (2, u "negativeZeroDoubleBits"), (21, u "max"), (2, u "min"), (43, u "$assertionsDisabled"), (0, u "Z"), (88, u "(II)I"), (2, u "twoToTheDoubleScaleDown"), (0, u "D"), (4, u "twoToTheDoubleScaleUp"), (9, u "E"), (3, u "PI"), (2, u "TAU"), (2, u "DEGREES_TO_RADIANS"), (0, u "RADIANS_TO_DEGREES")] 94

def k2m0 : Method := { name := "<init>", desc := "()V", sig := { parameters := [], returnType := none }, accessFlags := 2, code := none }
def k2c1 : Code := { maxStack := 2, maxLocals := 2, code := jdk_29_method_65_code, exceptionTable := #[], attributes := #[] }
def k2m1 : Method := { name := "max", desc := "(II)I", sig := { parameters := [.int, .int], returnType := some .int }, accessFlags := 9, code := some k2c1 }
def k2c2 : Code := { maxStack := 2, maxLocals := 2, code := jdk_29_method_69_code, exceptionTable := #[], attributes := #[] }
def k2m2 : Method := { name := "min", desc := "(II)I", sig := { parameters := [.int, .int], returnType := some .int }, accessFlags := 9, code := some k2c2 }
/-- java/lang/Math -/
def k2 : Class := { plain "java/lang/Math" (some 0) with
  accessFlags := 49
  interfaces := #[]
  cf := some (fileOf pool2 1 #[.nestMembers #[98]] #[{ accessFlags := 2, nameIndex := 7, descriptorIndex := 8, attributes := #[] }, { accessFlags := 9, nameIndex := 198, descriptorIndex := 335, attributes := #[] }, { accessFlags := 9, nameIndex := 201, descriptorIndex := 335, attributes := #[] }] 49 4 #[] #[{ accessFlags := 25, nameIndex := 354, descriptorIndex := 339, attributes := #[] }, { accessFlags := 25, nameIndex := 358, descriptorIndex := 339, attributes := #[] }, { accessFlags := 25, nameIndex := 361, descriptorIndex := 339, attributes := #[] }, { accessFlags := 26, nameIndex := 364, descriptorIndex := 339, attributes := #[] }, { accessFlags := 26, nameIndex := 365, descriptorIndex := 339, attributes := #[] }, { accessFlags := 26, nameIndex := 172, descriptorIndex := 173, attributes := #[] }, { accessFlags := 26, nameIndex := 176, descriptorIndex := 173, attributes := #[] }, { accessFlags := 8, nameIndex := 344, descriptorIndex := 339, attributes := #[] }, { accessFlags := 8, nameIndex := 338, descriptorIndex := 339, attributes := #[] }, { accessFlags := 4120, nameIndex := 245, descriptorIndex := 246, attributes := #[] }])
  fields := #[{ name := "E", type := .double, accessFlags := 25, slot := 0, constantValue := 0 }, { name := "PI", type := .double, accessFlags := 25, slot := 1, constantValue := 0 }, { name := "TAU", type := .double, accessFlags := 25, slot := 2, constantValue := 0 }, { name := "DEGREES_TO_RADIANS", type := .double, accessFlags := 26, slot := 3, constantValue := 0 }, { name := "RADIANS_TO_DEGREES", type := .double, accessFlags := 26, slot := 4, constantValue := 0 }, { name := "negativeZeroFloatBits", type := .long, accessFlags := 26, slot := 5, constantValue := 0 }, { name := "negativeZeroDoubleBits", type := .long, accessFlags := 26, slot := 6, constantValue := 0 }, { name := "twoToTheDoubleScaleUp", type := .double, accessFlags := 8, slot := 7, constantValue := 0 }, { name := "twoToTheDoubleScaleDown", type := .double, accessFlags := 8, slot := 8, constantValue := 0 }, { name := "$assertionsDisabled", type := .boolean, accessFlags := 4120, slot := 9, constantValue := 0 }]
  methods := #[k2m0, k2m1, k2m2]
  instanceTypes := #[]
  staticTypes := #[.double, .double, .double, .double, .double, .long, .long, .double, .double, .boolean]
  resolved := Array.replicate 460 none
  statics := none }

def pool3 : Array CpInfo := pool [(2, .class_ 4), (1, u "java/lang/Object"), (0, u "<init>"), (0, u "()V"), (0, .class_ 8), (0, u "com/example/tollgate/tollgate/replay/StartPairs"), (2, u "startingBy"), (0, u "([III)I")] 3

def k3m0 : Method := { name := "<init>", desc := "()V", sig := { parameters := [], returnType := none }, accessFlags := 2, code := none }
def k3c1 : Code := { maxStack := 3, maxLocals := 6, code := prog_152_method_2_code, exceptionTable := #[], attributes := #[] }
def k3m1 : Method := { name := "startingBy", desc := "([III)I", sig := { parameters := [(.array .int), .int, .int], returnType := some .int }, accessFlags := 8, code := some k3c1 }
/-- com/example/tollgate/tollgate/replay/StartPairs -/
def k3 : Class := { plain "com/example/tollgate/tollgate/replay/StartPairs" (some 0) with
  accessFlags := 48
  interfaces := #[]
  cf := some (fileOf pool3 7 #[] #[{ accessFlags := 2, nameIndex := 5, descriptorIndex := 6, attributes := #[] }, { accessFlags := 8, nameIndex := 11, descriptorIndex := 12, attributes := #[] }] 48 2 #[] #[])
  fields := #[]
  methods := #[k3m0, k3m1]
  instanceTypes := #[]
  staticTypes := #[]
  resolved := Array.replicate 16 none
  statics := none }

def pool4 : Array CpInfo := pool [(1, u "java/lang/Cloneable"), (0, .class_ 1), (0, u "java/lang/Object"), (0, .class_ 3)] 3

/-- java/lang/Cloneable -/
def k4 : Class := { plain "java/lang/Cloneable" (some 0) with
  accessFlags := 1537
  interfaces := #[]
  cf := some (fileOf pool4 2 #[] #[] 1537 4 #[] #[])
  fields := #[]
  methods := #[]
  instanceTypes := #[]
  staticTypes := #[]
  resolved := Array.replicate 8 none
  statics := none }

def pool5 : Array CpInfo := pool [(1, u "java/io/Serializable"), (0, .class_ 1), (0, u "java/lang/Object"), (0, .class_ 3)] 3

/-- java/io/Serializable -/
def k5 : Class := { plain "java/io/Serializable" (some 0) with
  accessFlags := 1537
  interfaces := #[]
  cf := some (fileOf pool5 2 #[] #[] 1537 4 #[] #[])
  fields := #[]
  methods := #[]
  instanceTypes := #[]
  staticTypes := #[]
  resolved := Array.replicate 8 none
  statics := none }

/-- the primitive byte -/
def k6 : Class := { plain "byte" none with kind := .primitive 'B', accessFlags := 0x411 }
/-- [B -/
def k7 : Class := { plain "[B" (some 0) with kind := .array 6 .byte, interfaces := #[4, 5], accessFlags := 1041 }

/-- the primitive int -/
def k8 : Class := { plain "int" none with kind := .primitive 'I', accessFlags := 0x411 }
/-- [I -/
def k9 : Class := { plain "[I" (some 0) with kind := .array 8 .int, interfaces := #[4, 5], accessFlags := 1041 }

def heap : Heap := #[]
def classes : Array Class := #[k0, k1, k2, k3, k4, k5, k6, k7, k8, k9]
def interned : List (Array UInt16 × Addr) := []
def slotsUsed : Nat := 0
def theMethod : MethodId := ⟨1, 2⟩
def args0 : Array Value := #[.int 5, .int 6, .int 7, .int 2, .int 3, .int 4]
def aboutOver (below : List Frame) : State where
  vm := { classes := classes, interned := interned.toArray }
  heap := heap
  slotsUsed := slotsUsed
  threads := #[{ frames := .invoking theMethod args0 :: below }]
def below0 : List Frame := [.native { method := ⟨0, 0⟩, args := #[] }]
def about1 : State := aboutOver below0
def p0 : Program := .bare "" "" ""
def e0 : Env := launch0.env 0 0 0
theorem w_frames : about1.frames = Frame.invoking theMethod args0 :: below0 := rfl
set_option maxRecDepth 65536 in
theorem w_args : argsFit about1.vm theMethod args0 = true := by decide +kernel
set_option maxRecDepth 65536 in
theorem w_heap : heapFits about1 = true := by decide +kernel
set_option maxRecDepth 65536 in
theorem w_runnable : about1.curStatus? = some .runnable := by decide +kernel
set_option maxRecDepth 65536 in
theorem w_alone : about1.alone = true := by decide +kernel
set_option maxRecDepth 65536 in
theorem w_named : about1.methodNamed? x = some theMethod := by decide +kernel
set_option maxRecDepth 65536 in
theorem w_hears : about1.hears theMethod below0 = true := by decide +kernel
set_option maxRecDepth 65536 in
theorem w_ripe : about1.ripe theMethod args0 below0 = true := by decide +kernel
theorem w_running : about1.status = .running := rfl
set_option maxRecDepth 65536 in
theorem w_room : about1.hasRoom e0.platform room_1 = true :=
  launch0.hasRoom_least _ room_1 (by decide +kernel) (by decide +kernel) (by decide +kernel) (by decide +kernel) (by decide +kernel) (by decide +kernel)
theorem allAtoms_all (ts : List Jvm.Cond) (a : Array Jvm.Value) (st : Jvm.State) : (allAtoms ts).before a st = ts.all (fun c => c.before a st) := by
  induction ts with
  | nil => rfl
  | cons c t ih =>
    show (Jvm.Cond.and c (allAtoms t)).before a st = _
    rw [Jvm.Cond.before_and, ih, List.all_cons]
def words1 : List Jvm.Cond := Jvm.Cond.code x code maxLocals ret :: tables_1
/-- a 'code' word, met by the world's own term for the bytes: nothing is compared byte by byte -/
theorem code_word {y : MethodName} {bytes : ByteArray} {mx : Nat} {rt : Option FieldType} {a : Array Value} {s : State} {m : MethodId} {meth : Method} {c : Code} (h1 : s.methodNamed? y = some m) (h2 : s.vm.method? m = some meth) (h3 : meth.code = some c) (h4 : c.code = bytes)
    (h5 : (c.maxLocals == mx && c.exceptionTable.isEmpty && decide (c.maxStack ≤ mostOperands) && decide (meth.sig.returnType = rt) && !meth.locks && decide (parseMethodDescriptor y.desc = some meth.sig)) = true) : (Jvm.Cond.code y bytes mx rt).before a s = true := by
  simp only [Bool.and_eq_true, beq_iff_eq, Bool.not_eq_true', decide_eq_true_eq] at h5
  obtain ⟨⟨⟨⟨⟨g1, g2⟩, g3⟩, g4⟩, g5⟩, g6⟩ := h5
  simp [Cond.before, Cond.holds, Cond.value, h1, h2, h3, h4, g1, g2, g3, g4, g5, g6]
def isCode : Jvm.Cond → Bool
  | .code _ _ _ _ => true
  | _ => false
theorem all_split {L : List Jvm.Cond} {P : Jvm.Cond → Bool} (h1 : L.all (fun c => isCode c || P c) = true) (h2 : ∀ c ∈ L.filter isCode, P c = true) : L.all P = true := by
  refine List.all_eq_true.mpr fun c hc => ?_
  have h := List.all_eq_true.mp h1 c hc
  rcases Bool.eq_false_or_eq_true (isCode c) with hi | hi
  · exact h2 c (List.mem_filter.mpr ⟨hc, hi⟩)
  · simpa [hi] using h
set_option maxRecDepth 65536 in
theorem w_c0 : (Jvm.Cond.code x code maxLocals ret).before args0 about1 = true := code_word (m := ⟨1, 2⟩) (meth := k1m2) (c := k1c2) (by decide +kernel) rfl rfl rfl (by decide +kernel)
set_option maxRecDepth 65536 in
theorem w_c1 : (Jvm.Cond.code ({ cls := "java/lang/Math", name := "min", desc := "(II)I" } : Jvm.MethodName) jdk_29_method_69_code (2 : Nat) (Option.some Jvm.ClassFile.FieldType.int)).before args0 about1 = true := code_word (m := ⟨2, 2⟩) (meth := k2m2) (c := k2c2) (by decide +kernel) rfl rfl rfl (by decide +kernel)
set_option maxRecDepth 65536 in
theorem w_c2 : (Jvm.Cond.code ({ cls := "java/lang/Math", name := "max", desc := "(II)I" } : Jvm.MethodName) jdk_29_method_65_code (2 : Nat) (Option.some Jvm.ClassFile.FieldType.int)).before args0 about1 = true := code_word (m := ⟨2, 1⟩) (meth := k2m1) (c := k2c1) (by decide +kernel) rfl rfl rfl (by decide +kernel)
set_option maxRecDepth 65536 in
theorem w_c3 : (Jvm.Cond.code ({ cls := "com/example/tollgate/tollgate/replay/StartPairsStartingByPinLaw", name := "at", desc := "(ZII)I" } : Jvm.MethodName) method_2_code (3 : Nat) (Option.some Jvm.ClassFile.FieldType.int)).before args0 about1 = true := code_word (m := ⟨1, 1⟩) (meth := k1m1) (c := k1c1) (by decide +kernel) rfl rfl rfl (by decide +kernel)
set_option maxRecDepth 65536 in
theorem w_c4 : (Jvm.Cond.code ({ cls := "com/example/tollgate/tollgate/replay/StartPairs", name := "startingBy", desc := "([III)I" } : Jvm.MethodName) prog_152_method_2_code (6 : Nat) (Option.some Jvm.ClassFile.FieldType.int)).before args0 about1 = true := code_word (m := ⟨3, 1⟩) (meth := k3m1) (c := k3c1) (by decide +kernel) rfl rfl rfl (by decide +kernel)
def codes1 : List Jvm.Cond := [Jvm.Cond.code x code maxLocals ret, Jvm.Cond.code ({ cls := "java/lang/Math", name := "min", desc := "(II)I" } : Jvm.MethodName) jdk_29_method_69_code (2 : Nat) (Option.some Jvm.ClassFile.FieldType.int), Jvm.Cond.code ({ cls := "java/lang/Math", name := "max", desc := "(II)I" } : Jvm.MethodName) jdk_29_method_65_code (2 : Nat) (Option.some Jvm.ClassFile.FieldType.int), Jvm.Cond.code ({ cls := "com/example/tollgate/tollgate/replay/StartPairsStartingByPinLaw", name := "at", desc := "(ZII)I" } : Jvm.MethodName) method_2_code (3 : Nat) (Option.some Jvm.ClassFile.FieldType.int), Jvm.Cond.code ({ cls := "com/example/tollgate/tollgate/replay/StartPairs", name := "startingBy", desc := "([III)I" } : Jvm.MethodName) prog_152_method_2_code (6 : Nat) (Option.some Jvm.ClassFile.FieldType.int)]
set_option maxRecDepth 65536 in
theorem codes_eq : words1.filter isCode = codes1 := rfl
theorem w_codes : ∀ c ∈ words1.filter isCode, c.before args0 about1 = true := by
  rw [codes_eq]
  intro c hc
  simp only [codes1, List.mem_cons, List.not_mem_nil, or_false] at hc
  rcases hc with rfl | rfl | rfl | rfl | rfl
  · exact w_c0
  · exact w_c1
  · exact w_c2
  · exact w_c3
  · exact w_c4
set_option maxRecDepth 65536 in
theorem w_t1 : words1.all (fun c => isCode c || c.before args0 about1) = true := by decide +kernel
theorem w_tables : (allAtoms (Jvm.Cond.code x code maxLocals ret :: tables_1)).before args0 about1 = true := by
  rw [allAtoms_all]
  show words1.all (fun c => c.before args0 about1) = true
  refine all_split ?_ w_codes
  rw [w_t1]
set_option maxRecDepth 65536 in
theorem w_case : (Jvm.Cond.and given_1 narrow_1).before args0 about1 = true := by decide +kernel
theorem w_applies : (headSpec (Jvm.Cond.code x code maxLocals ret :: tables_1) room_1).applies x e0.platform about1 = true :=
  (Spec.applies_iff w_frames).mpr ⟨w_running, w_runnable, w_alone, w_named, w_hears, w_ripe, w_room, w_tables⟩
theorem atStart : AtStart classFile x code maxLocals ret World_1 tables_1 room_1 Calls_1 rest_1 Pre_1 launch0 p0 e0 about1 theMethod args0 below0 :=
  ⟨lists_1, trivial, launch0.admits_env _ _ _, launch0.least_env, fairChoices_fair.cas, fairChoices_fair.clock, w_frames, w_args, w_heap, w_applies, trivial, trivial, w_case⟩
end start1
theorem witness_1 : WitnessClaimed_1 := ⟨start1.p0, start1.e0, start1.about1, start1.theMethod, start1.args0, start1.below0, start1.atStart⟩
end Jvm.Pilot.@@N@@
