import JvmDerived
import JvmDerived.Pilot.@@N@@Statement
import JvmDerived.Pilot.@@N@@Code
set_option linter.unusedVariables false
set_option linter.unusedSimpArgs false
namespace Jvm.Pilot.@@N@@
open Jvm Jvm.ClassFile Sem Op Lib Jvm.Free Jvm.Stand Jvm.LawKit Jvm.RoadKit Bundle Jvm.Pilot.@@N@@.Jvm.D
def own_min (a b : Int32) : Int32 := if b < a then b else a
def own_lv (n : Nat) : Nat := if n ≤ 1 then 1 else if n ≤ 2 then 2 else if n ≤ 4 then 4 else 8
def own_up : Nat → List Int32 → Nat → List Int32
  | 0, vs, _ => vs
  | k + 1, vs, j => if j < 1 then vs else own_up k (vs.set j (own_min (vs.getD (2 * j) 0) (vs.getD (2 * j + 1) 0))) (j / 2)
def own_set (lv : Nat) (vs : List Int32) (i : Nat) (v : Int32) : List Int32 := own_up 4 (vs.set (lv + i) v) ((lv + i) / 2)
def own_strip : Nat → Nat → Nat
  | 0, j => j
  | k + 1, j => if j % 2 = 1 then own_strip k (j / 2) else j
def own_next (j : Nat) : Nat := if own_strip 4 j = 0 then 0 else own_strip 4 j + 1
def own_iter : Nat → Nat → Nat
  | 0, j => j
  | k + 1, j => own_iter k (own_next j)
def own_upw (hit : Nat → Bool) : Nat → Nat → Nat
  | 0, j => j
  | k + 1, j => if j = 0 then 0 else if hit j then j else own_upw hit k (own_next j)
def own_down (hit : Nat → Bool) (lv : Nat) : Nat → Nat → Nat
  | 0, j => j
  | k + 1, j => if j < lv then own_down hit lv k (if hit (2 * j) then 2 * j else 2 * j + 1) else j
def own_fam (hit : Nat → Bool) (lv f t : Nat) : Int32 :=
  if f < t then (if own_upw hit 5 (lv + f) = 0 then -1 else if own_down hit lv 4 (own_upw hit 5 (lv + f)) - lv < t then Int32.ofNat (own_down hit lv 4 (own_upw hit 5 (lv + f)) - lv) else -1) else -1
def own_hitf (vs : List Int32) (x : Int32) (j : Nat) : Bool := decide (¬ x < vs.getD j 0)
theorem own_lt17 : ∀ i j : Fin 17, ((Int32.ofNat i.1 < Int32.ofNat j.1) ↔ i.1 < j.1) := by decide +kernel
theorem own_eq17 : ∀ i j : Fin 17, ((Int32.ofNat i.1 = Int32.ofNat j.1) ↔ i.1 = j.1) := by decide +kernel
theorem own_add17 : ∀ i j : Fin 17, Int32.ofNat i.1 + Int32.ofNat j.1 = Int32.ofNat (i.1 + j.1) := by decide +kernel
theorem own_sub17 : ∀ i j : Fin 17, j.1 ≤ i.1 → Int32.ofNat i.1 - Int32.ofNat j.1 = Int32.ofNat (i.1 - j.1) := by decide +kernel
theorem own_one17 : ∀ i : Fin 17, Int32.ofNat i.1 + (1 : Int32) = Int32.ofNat (i.1 + 1) ∧ (2 : Int32) * Int32.ofNat i.1 = Int32.ofNat (2 * i.1) ∧ Int32.ofNat i.1 / (2 : Int32) = Int32.ofNat (i.1 / 2) ∧ Int32.ofNat i.1 % (2 : Int32) = Int32.ofNat (i.1 % 2) ∧ ¬ Int32.ofNat i.1 < 0 ∧ (Int32.ofNat i.1).toNatClampNeg = i.1 ∧ (Int32.ofNat i.1 < (1 : Int32) ↔ i.1 < 1) ∧ (Int32.ofNat i.1 = (0 : Int32) ↔ i.1 = 0) ∧ (Int32.ofNat i.1 = (1 : Int32) ↔ i.1 = 1) := by decide +kernel
theorem own_two (j : Nat) (h : j < 8) : (2 : Int32) * Int32.ofNat j = Int32.ofNat (2 * j) ∧ (2 : Int32) * Int32.ofNat j + (1 : Int32) = Int32.ofNat (2 * j + 1) := by
  have h1 := (own_one17 ⟨j, by omega⟩).2.1
  have h2 := (own_one17 ⟨2 * j, by omega⟩).1
  simp only at h1 h2
  rw [h1, h2]
  exact ⟨rfl, rfl⟩
theorem own_stripB : ∀ lv : Fin 9, (lv.1 = 1 ∨ lv.1 = 2 ∨ lv.1 = 4 ∨ lv.1 = 8) → ∀ j : Fin 16, j.1 < 2 * lv.1 → own_next j.1 < 2 * lv.1 := by decide +kernel
theorem own_iterB : ∀ j : Fin 16, own_iter 5 j.1 = 0 := by decide +kernel
theorem own_lvB (n : Nat) : own_lv n = 1 ∨ own_lv n = 2 ∨ own_lv n = 4 ∨ own_lv n = 8 := by
  unfold own_lv
  split
  · exact Or.inl rfl
  · split
    · exact Or.inr (Or.inl rfl)
    · split
      · exact Or.inr (Or.inr (Or.inl rfl))
      · exact Or.inr (Or.inr (Or.inr rfl))
theorem own_repl (i : Nat) (v d : Value) : (List.replicate i v ++ List.replicate 1 d).set i v = List.replicate (i + 1) v := by
  rw [List.set_append_right _ _ (by simp)]
  simp [List.replicate_succ']
def own_Tree (Z : State) (h : Heap) (a b : Addr) (k : ClassId) (lv : Nat) (vs : List Int32) : Prop :=
  Exa Z h a "com/example/unknot/unknot/sp/MinTree" ∧ Fld Z h a "com/example/unknot/unknot/sp/MinTree" "leaves" "I" (.int (Int32.ofNat lv)) ∧ Fld Z h a "com/example/unknot/unknot/sp/MinTree" "least" "[I" (.ref b) ∧ Arv Z h b k .int (Int32.ofNat (2 * lv)) (vs.map Value.int) (.int 0) ∧ vs.length = 2 * lv ∧ a ≠ b
theorem own_mapD (vs : List Int32) (j : Nat) : (vs.map Value.int).getD j (.int 0) = .int (vs.getD j 0) := by
  simp [List.getD, List.getElem?_map]
theorem own_mapS (vs : List Int32) (j : Nat) (x : Int32) : (vs.map Value.int).set j (.int x) = (vs.set j x).map Value.int := by
  simp [List.map_set]
/-- what a read of the tree's array gives -/
theorem own_read {Z : State} {h : Heap} {a b : Addr} {k : ClassId} {lv : Nat} {vs : List Int32} (Tr : own_Tree Z h a b k lv vs) (hl : lv ≤ 8) : ∃ cl : Cell, Arr Z h b cl .int ∧ cl.cls = k ∧ cl.slots.size = (Int32.ofNat (2 * lv)).toNatClampNeg ∧ ¬ Int32.ofNat (2 * lv) < 0 ∧ Has cl (vs.map Value.int) (.int 0) ∧ (∀ i, i < cl.slots.size → fits .int ((vs.map Value.int).getD i (.int 0)) = true) ∧
    ∀ j, j < 2 * lv → ¬ (Int32.ofNat j < 0 ∨ cl.slots.size ≤ (Int32.ofNat j).toNatClampNeg) ∧ cl.slots[(Int32.ofNat j).toNatClampNeg]? = some (.int (vs.getD j 0)) := by
  obtain ⟨-, -, -, ⟨cl, Ar, ck, S, Ng, H, Ft⟩, hlen, -⟩ := Tr
  refine ⟨cl, Ar, ck, S, Ng, H, Ft, fun j hj => ?_⟩
  have q := own_one17 ⟨j, by omega⟩
  have hin := inb_of S ⟨q.2.2.2.2.1, (own_lt17 ⟨j, by omega⟩ ⟨2 * lv, by omega⟩).mpr hj⟩
  exact ⟨hin, H.at hin (by rw [q.2.2.2.2.2.1]; exact own_mapD vs j)⟩
/-- what a store leaves -/
theorem own_store {Z : State} {h h' : Heap} {a b : Addr} {k : ClassId} {lv : Nat} {vs : List Int32} (Tr : own_Tree Z h a b k lv vs) (hl : lv ≤ 8) (j : Nat) (hj : j < 2 * lv) (x : Int32) (W : Wr h h' b (Int32.ofNat j).toNatClampNeg (.int x)) : own_Tree Z h' a b k lv (vs.set j x) := by
  obtain ⟨cl, Ar, ck, S, Ng, H, Ft, -⟩ := own_read Tr hl
  obtain ⟨E, F1, F2, -, hlen, ne⟩ := Tr
  have q := own_one17 ⟨j, by omega⟩
  refine ⟨E.wr W, F1.other W (Or.inl ne), F2.other W (Or.inl ne), ?_, by simp [hlen], ne⟩
  have := Arv.set Ar ck S Ng H Ft (v := .int x) rfl W j q.2.2.2.2.2.1 (by simp [hlen, hj])
  rw [own_mapS] at this
  exact this
theorem own_keepT {Z : State} {h h' : Heap} {a b : Addr} {k : ClassId} {lv : Nat} {vs : List Int32} (Tr : own_Tree Z h a b k lv vs) (e : h' = h) : own_Tree Z h' a b k lv vs := e ▸ Tr
theorem own_djdk_29_69_0 : decode jdk_29_method_69_code 0 = .ok (.iload_n 0, 1) := by decide +kernel
theorem own_djdk_29_69_1 : decode jdk_29_method_69_code 1 = .ok (.iload_n 1, 1) := by decide +kernel
theorem own_djdk_29_69_2 : decode jdk_29_method_69_code 2 = .ok (.if_icmp .gt 7, 3) := by decide +kernel
theorem own_djdk_29_69_5 : decode jdk_29_method_69_code 5 = .ok (.iload_n 0, 1) := by decide +kernel
theorem own_djdk_29_69_6 : decode jdk_29_method_69_code 6 = .ok (.goto 4, 3) := by decide +kernel
theorem own_djdk_29_69_9 : decode jdk_29_method_69_code 9 = .ok (.iload_n 1, 1) := by decide +kernel
theorem own_djdk_29_69_10 : decode jdk_29_method_69_code 10 = .ok (.ireturn, 1) := by decide +kernel
theorem own_ef_min (m : MethodId) (x0 : Int32) (x1 : Int32) : entryFrame m #[(.int x0), (.int x1)] 2 = mkF m 0 #[.val (.int x0), .val (.int x1)] [] := by first | (simp [entryFrame, mkF, argsToLocals, Value.category]; done) | rfl
def Q_min (Z : State) (p1 : Int32) (p2 : Int32) (h0 : Heap) (n0 : Nat) (v : Option Value) (h : Heap) (L : List Loc) : Prop := v = some (.int (own_min p1 p2)) ∧ Fr n0 L ∧ h = h0
set_option maxRecDepth 65536 in
set_option maxHeartbeats 40000000 in
theorem rm_min (l : Launch) (Z : State) (a0 : Array Value) (hw : ∀ d ∈ tables_1, d.before a0 Z = true) (ws : List Jvm.Cond) (p1 : Int32) (p2 : Int32) (h0 : Heap) (n0 : Nat) (Z0 : n0 ≤ h0.size)  :
    MetFree l (⟨"java/lang/Math", "min", "(II)I"⟩ : MethodName) (head1 (Jvm.Cond.code (⟨"java/lang/Math", "min", "(II)I"⟩ : MethodName) jdk_29_method_69_code 2 (some .int) :: ws) ({ frames := 0, cells := 0, slots := 0, locals := 0 } : Room)) (fun a U => a = #[(.int p1), (.int p2)] ∧ Z.Warmed39 U.vm ∧ U.heap = h0) (fun _ _ _ _ _ => True) (fun _ U o U' => ∃ v L, o = .returned v ∧ Q_min Z p1 p2 h0 n0 v U'.heap L ∧ FrameEnd U o U' L ({ frames := 0, cells := 0, slots := 0, locals := 0 } : Room).cells ({ frames := 0, cells := 0, slots := 0, locals := 0 } : Room).slots) := by
  refine MetFree.of_bodySF (Jvm.Free.JP.mathPlain rfl (by decide +kernel)) hisR ?_
  intro p e s m args below meth c s₁ Bd hml0 hP hK
  obtain ⟨rfl, hZ, hh⟩ := hP
  have hx := Bd.exec
  have hby := Bd.bytes
  have hml : c.maxLocals = 2 := hml0
  have hown : s.vm.findClass "java/lang/Math" = some m.cls := findClass_of_methodNamed Bd.named
  have hnm := (name_of_methodNamed Bd.named Bd.method).1
  have X0 : Stand p l e ({ frames := 0, cells := 0, slots := 0, locals := 0 } : Room) s m #[(.int p1), (.int p2)] below meth c s₁ [] 0 0 := Stand.of_body Bd
  have e0 : s₁.heap = h0 := by rw [← hh, Bd.state]; rfl
  have N0 := Fr.nil n0
  have pre0 : ∀ t, Steps p.tables e below (s₁.setTop (mkF m 0 #[.val (.int p1), .val (.int p2)] [])) t → Steps p.tables e below (s₁.setTop (entryFrame m #[(.int p1), (.int p2)] 2)) t := fun t k => castTop (own_ef_min m p1 p2) k
  obtain ⟨r, h_r⟩ : ∃ z : Int32, z = (if p2 < p1 then p2 else p1) := ⟨_, rfl⟩
  obtain ⟨fs, hr, hrun, hended, hW, hsame⟩ := X0.leave (v := some (.int r)) (fun h => by rw [Bd.returns] at h; cases h)
  refine ⟨_, _, pre0 _ ?_, hrun, hended, _, _, rfl, ?_, ⟨_, rfl⟩, hW, hsame.mono (by decide) (by decide)⟩
  · show Steps p.tables e below (s₁.setTop (mkF m 0 #[.val (.int p1), .val (.int p2)] [])) _
    refine XS.iloadN X0.here hx rfl (hb hby own_djdk_29_69_0) rfl ?_
    show Steps p.tables e below (s₁.setTop (mkF m 1 #[.val (.int p1), .val (.int p2)] [(.int p1)])) _
    refine XS.iloadN X0.here hx rfl (hb hby own_djdk_29_69_1) rfl ?_
    show Steps p.tables e below (s₁.setTop (mkF m 2 #[.val (.int p1), .val (.int p2)] [(.int p2), (.int p1)])) _
    refine (show ∀ tt, Steps p.tables e below (s₁.setTop (mkF m 10 #[.val (.int p1), .val (.int p2)] [(.int r)])) tt → Steps p.tables e below (s₁.setTop (mkF m 2 #[.val (.int p1), .val (.int p2)] [(.int p2), (.int p1)])) tt from ?_) _ ?_
    · intro tt kt
      by_cases hc : p2 < p1
      · rw [h_r, if_pos hc] at kt
        show Steps p.tables e below (s₁.setTop (mkF m 2 #[.val (.int p1), .val (.int p2)] [(.int p2), (.int p1)])) _
        refine XS.icmpYes X0.here hx rfl (pc0 := 2) (pc' := 9) rfl (hb hby own_djdk_29_69_2) rfl (tlt hc).2.2.1 (by decide) (by decide) ?_
        show Steps p.tables e below (s₁.setTop (mkF m 9 #[.val (.int p1), .val (.int p2)] [])) _
        refine XS.iloadN X0.here hx rfl (hb hby own_djdk_29_69_9) rfl ?_
        exact kt
      · rw [h_r, if_neg hc] at kt
        show Steps p.tables e below (s₁.setTop (mkF m 2 #[.val (.int p1), .val (.int p2)] [(.int p2), (.int p1)])) _
        refine XS.icmpNo X0.here hx rfl (hb hby own_djdk_29_69_2) rfl (flt hc).2.2.1 ?_
        show Steps p.tables e below (s₁.setTop (mkF m 5 #[.val (.int p1), .val (.int p2)] [])) _
        refine XS.iloadN X0.here hx rfl (hb hby own_djdk_29_69_5) rfl ?_
        show Steps p.tables e below (s₁.setTop (mkF m 6 #[.val (.int p1), .val (.int p2)] [(.int p1)])) _
        refine XS.goto X0.here hx rfl (pc0 := 6) (pc' := 10) rfl (hb hby own_djdk_29_69_6) (by decide) (by decide) ?_
        exact kt
    show Steps p.tables e below (s₁.setTop (mkF m 10 #[.val (.int p1), .val (.int p2)] [(.int r)])) _
    exact retOut X0 hx Bd.returns rfl (Or.inl ⟨rfl, Or.inl rfl, _, rfl⟩) (hb hby own_djdk_29_69_10) hr
  · show Q_min Z p1 p2 h0 n0 _ s₁.heap _
    rw [e0]
    exact ⟨(by rw [h_r]; rfl), N0, rfl⟩
theorem own_djdk_65_103_0 : decode jdk_65_method_103_code 0 = .ok (.iconst 0, 1) := by decide +kernel
theorem own_djdk_65_103_1 : decode jdk_65_method_103_code 1 = .ok (.istore_n 2, 1) := by decide +kernel
theorem own_djdk_65_103_2 : decode jdk_65_method_103_code 2 = .ok (.aload_n 0, 1) := by decide +kernel
theorem own_djdk_65_103_3 : decode jdk_65_method_103_code 3 = .ok (.arraylength, 1) := by decide +kernel
theorem own_djdk_65_103_4 : decode jdk_65_method_103_code 4 = .ok (.istore_n 3, 1) := by decide +kernel
theorem own_djdk_65_103_5 : decode jdk_65_method_103_code 5 = .ok (.iload_n 2, 1) := by decide +kernel
theorem own_djdk_65_103_6 : decode jdk_65_method_103_code 6 = .ok (.iload_n 3, 1) := by decide +kernel
theorem own_djdk_65_103_7 : decode jdk_65_method_103_code 7 = .ok (.if_icmp .ge 13, 3) := by decide +kernel
theorem own_djdk_65_103_10 : decode jdk_65_method_103_code 10 = .ok (.aload_n 0, 1) := by decide +kernel
theorem own_djdk_65_103_11 : decode jdk_65_method_103_code 11 = .ok (.iload_n 2, 1) := by decide +kernel
theorem own_djdk_65_103_12 : decode jdk_65_method_103_code 12 = .ok (.iload_n 1, 1) := by decide +kernel
theorem own_djdk_65_103_13 : decode jdk_65_method_103_code 13 = .ok (.iastore, 1) := by decide +kernel
theorem own_djdk_65_103_14 : decode jdk_65_method_103_code 14 = .ok (.iinc 2 1, 3) := by decide +kernel
theorem own_djdk_65_103_17 : decode jdk_65_method_103_code 17 = .ok (.goto (-12), 3) := by decide +kernel
theorem own_djdk_65_103_20 : decode jdk_65_method_103_code 20 = .ok (.return_, 1) := by decide +kernel
set_option maxRecDepth 65536 in
set_option maxHeartbeats 40000000 in
theorem own_fturn {p : Program} {l : Launch} {e : Env} {R : Room} {s : State} {m : MethodId} {args : Array Value} {below : List Frame} {meth : Method} {c : Code} {T0 : State} {locs : List Loc} {cells slots : Nat} {Z : State} {a0 : Array Value} {h0 : Heap} (a1 : Addr) (p2 i n : Int32) (cl : Cell) (n0 : Nat)
    (X0 : Stand p l e R s m args below meth c T0 locs cells slots) (hx : p.tables.exec = Jvm.exec) (hZ : Z.Warmed39 s.vm) (hw : ∀ d ∈ tables_1, d.before a0 Z = true) (hby : c.code = jdk_65_method_103_code) (hml : c.maxLocals = 4) (hown : s.vm.findClass "java/util/Arrays" = some m.cls) (e0 : T0.heap = h0) (N0 : Fr n0 locs) (Z0 : n0 ≤ h0.size) (g : n0 ≤ a1) (hlt : i < n) (Ar : Arr Z h0 a1 cl .int) (hin : ¬ (i < 0 ∨ cl.slots.size ≤ i.toNatClampNeg)) :
    ∃ (T' : State) (h' : Heap) (locs' : List Loc), Stand p l e R s m args below meth c T' locs' cells slots ∧ T'.heap = h' ∧ Fr n0 locs' ∧ Wr h0 h' a1 i.toNatClampNeg (.int p2) ∧ ∀ target, Steps p.tables e below (T'.setTop (mkF m 5 #[.val (.ref a1), .val (.int p2), .val (.int (i + (1 : Int32))), .val (.int n)] [])) target → Steps p.tables e below (T0.setTop (mkF m 5 #[.val (.ref a1), .val (.int p2), .val (.int i), .val (.int n)] [])) target := by
  obtain ⟨T1, h1, X1, e1, W1, st1⟩ := stI X0 hx hZ e0 Ar (j := i) hin (g := (mkF m 13 #[.val (.ref a1), .val (.int p2), .val (.int i), .val (.int n)] [(.int p2), (.int i), (.ref a1)])) rfl rfl (hb hby own_djdk_65_103_13)
  have N1 := Fr.snoc X1 N0 g
  have sz1 : n0 ≤ h1.size := Nat.le_trans Z0 (Keep.of_wr W1).1
  refine ⟨T1, h1, _, X1, e1, N1, W1, fun target kt => ?_⟩
  show Steps p.tables e below (T0.setTop (mkF m 5 #[.val (.ref a1), .val (.int p2), .val (.int i), .val (.int n)] [])) _
  refine XS.iloadN X0.here hx rfl (hb hby own_djdk_65_103_5) rfl ?_
  show Steps p.tables e below (T0.setTop (mkF m 6 #[.val (.ref a1), .val (.int p2), .val (.int i), .val (.int n)] [(.int i)])) _
  refine XS.iloadN X0.here hx rfl (hb hby own_djdk_65_103_6) rfl ?_
  show Steps p.tables e below (T0.setTop (mkF m 7 #[.val (.ref a1), .val (.int p2), .val (.int i), .val (.int n)] [(.int n), (.int i)])) _
  refine XS.icmpNo X0.here hx rfl (hb hby own_djdk_65_103_7) rfl (tlt hlt).2.1 ?_
  show Steps p.tables e below (T0.setTop (mkF m 10 #[.val (.ref a1), .val (.int p2), .val (.int i), .val (.int n)] [])) _
  refine XS.aloadN X0.here hx rfl (hb hby own_djdk_65_103_10) rfl rfl ?_
  show Steps p.tables e below (T0.setTop (mkF m 11 #[.val (.ref a1), .val (.int p2), .val (.int i), .val (.int n)] [(.ref a1)])) _
  refine XS.iloadN X0.here hx rfl (hb hby own_djdk_65_103_11) rfl ?_
  show Steps p.tables e below (T0.setTop (mkF m 12 #[.val (.ref a1), .val (.int p2), .val (.int i), .val (.int n)] [(.int i), (.ref a1)])) _
  refine XS.iloadN X0.here hx rfl (hb hby own_djdk_65_103_12) rfl ?_
  show Steps p.tables e below (T0.setTop (mkF m 13 #[.val (.ref a1), .val (.int p2), .val (.int i), .val (.int n)] [(.int p2), (.int i), (.ref a1)])) _
  refine st1 _ ?_
  show Steps p.tables e below (T1.setTop (mkF m 14 #[.val (.ref a1), .val (.int p2), .val (.int i), .val (.int n)] [])) _
  refine XS.iinc X1.here hx rfl (hb hby own_djdk_65_103_14) rfl (l' := #[.val (.ref a1), .val (.int p2), .val (.int (i + (1 : Int32))), .val (.int n)]) rfl ?_
  show Steps p.tables e below (T1.setTop (mkF m 17 #[.val (.ref a1), .val (.int p2), .val (.int (i + (1 : Int32))), .val (.int n)] [])) _
  refine XS.goto X1.here hx rfl (pc0 := 17) (pc' := 5) rfl (hb hby own_djdk_65_103_17) (by decide) (by decide) ?_
  exact kt
set_option maxRecDepth 65536 in
set_option maxHeartbeats 40000000 in
theorem own_fleave {p : Program} {l : Launch} {e : Env} {R : Room} {s : State} {m : MethodId} {args : Array Value} {below : List Frame} {meth : Method} {c : Code} {T0 : State} {locs : List Loc} {cells slots : Nat} {Z : State} {a0 : Array Value} {h0 : Heap} (a1 : Addr) (p2 i n : Int32)
    (X0 : Stand p l e R s m args below meth c T0 locs cells slots) (hx : p.tables.exec = Jvm.exec) (hZ : Z.Warmed39 s.vm) (hw : ∀ d ∈ tables_1, d.before a0 Z = true) (hby : c.code = jdk_65_method_103_code) (hml : c.maxLocals = 4) (hown : s.vm.findClass "java/util/Arrays" = some m.cls) (e0 : T0.heap = h0) (hlt : ¬ i < n) :
     ∀ target, Steps p.tables e below (T0.setTop (mkF m 20 #[.val (.ref a1), .val (.int p2), .val (.int i), .val (.int n)] [])) target → Steps p.tables e below (T0.setTop (mkF m 5 #[.val (.ref a1), .val (.int p2), .val (.int i), .val (.int n)] [])) target := by
  intro target kt
  show Steps p.tables e below (T0.setTop (mkF m 5 #[.val (.ref a1), .val (.int p2), .val (.int i), .val (.int n)] [])) _
  refine XS.iloadN X0.here hx rfl (hb hby own_djdk_65_103_5) rfl ?_
  show Steps p.tables e below (T0.setTop (mkF m 6 #[.val (.ref a1), .val (.int p2), .val (.int i), .val (.int n)] [(.int i)])) _
  refine XS.iloadN X0.here hx rfl (hb hby own_djdk_65_103_6) rfl ?_
  show Steps p.tables e below (T0.setTop (mkF m 7 #[.val (.ref a1), .val (.int p2), .val (.int i), .val (.int n)] [(.int n), (.int i)])) _
  refine XS.icmpYes X0.here hx rfl (pc0 := 7) (pc' := 20) rfl (hb hby own_djdk_65_103_7) rfl (flt hlt).2.1 (by decide) (by decide) ?_
  exact kt
theorem own_fill {p : Program} {l : Launch} {e : Env} {R : Room} {s : State} {m : MethodId} {args : Array Value} {below : List Frame} {meth : Method} {c : Code} {Z : State} {a0 : Array Value} {cells slots : Nat} (a1 : Addr) (p2 : Int32) (kc : ClassId) (n : Nat) (n0 : Nat) (hn : n ≤ 16) (g : n0 ≤ a1) (hx : p.tables.exec = Jvm.exec) (hZ : Z.Warmed39 s.vm) (hw : ∀ d ∈ tables_1, d.before a0 Z = true) (hby : c.code = jdk_65_method_103_code) (hml : c.maxLocals = 4) (hown : s.vm.findClass "java/util/Arrays" = some m.cls) :
    ∀ (k i : Nat) (T0 : State) (locs : List Loc) (h0 : Heap), Stand p l e R s m args below meth c T0 locs cells slots → T0.heap = h0 → Fr n0 locs → n0 ≤ h0.size → i + k = n → Arv Z h0 a1 kc .int (Int32.ofNat n) (List.replicate i (.int p2)) (.int 0) →
    ∃ (T' : State) (h' : Heap) (locs' : List Loc), Stand p l e R s m args below meth c T' locs' cells slots ∧ T'.heap = h' ∧ Fr n0 locs' ∧ Keep h0 h' [a1] ∧ Arv Z h' a1 kc .int (Int32.ofNat n) (List.replicate n (.int p2)) (.int 0) ∧
      ∀ target, Steps p.tables e below (T'.setTop (mkF m 20 #[.val (.ref a1), .val (.int p2), .val (.int (Int32.ofNat n)), .val (.int (Int32.ofNat n))] [])) target → Steps p.tables e below (T0.setTop (mkF m 5 #[.val (.ref a1), .val (.int p2), .val (.int (Int32.ofNat i)), .val (.int (Int32.ofNat n))] [])) target := by
  intro k
  induction k with
  | zero =>
    intro i T0 locs h0 X0 e0 N0 Z0 hi A
    obtain rfl : i = n := by omega
    exact ⟨T0, h0, locs, X0, e0, N0, Keep.refl _ _, A, own_fleave a1 p2 _ _ X0 hx hZ hw hby hml hown e0 (fun q => absurd ((own_lt17 ⟨i, by omega⟩ ⟨i, by omega⟩).mp q) (Nat.lt_irrefl _))⟩
  | succ k ih =>
    intro i T0 locs h0 X0 e0 N0 Z0 hi A
    have q := own_one17 ⟨i, by omega⟩
    have q1 := (own_lt17 ⟨i, by omega⟩ ⟨n, by omega⟩).mpr (show i < n by omega)
    have A1 : Arv Z h0 a1 kc .int (Int32.ofNat n) (List.replicate i (.int p2) ++ List.replicate 1 (.int 0)) (.int 0) := A.pad (pad_rep _ _ 1)
    obtain ⟨cl, Ar, ck, S, Ng, H, Ft⟩ := A1
    obtain ⟨T1, h1, locs1, Xe1, e1, N1, W1, st1⟩ := own_fturn a1 p2 (Int32.ofNat i) (Int32.ofNat n) cl n0 X0 hx hZ hw hby hml hown e0 N0 Z0 g q1 Ar (inb_of S ⟨q.2.2.2.2.1, q1⟩)
    have A2 := Arv.set Ar ck S Ng H Ft (v := .int p2) rfl W1 i q.2.2.2.2.2.1 (by simp)
    rw [own_repl] at A2
    obtain ⟨T2, h2, locs2, X2, e2, N2, K2, A3, st2⟩ := ih (i + 1) T1 locs1 h1 Xe1 e1 N1 (Nat.le_trans Z0 (Keep.of_wr W1).1) (by omega) A2
    refine ⟨T2, h2, locs2, X2, e2, N2, (Keep.of_wr W1).trans K2 (fun x hx => Or.inl hx), A3, fun target kt => st1 target ?_⟩
    rw [q.1]
    exact st2 target kt
theorem own_pn_java_util_Arrays : plainName "java/util/Arrays" = true := by first | (simp [plainName, overriddenIn]; done) | decide +kernel
theorem own_ef_fill (m : MethodId) (x0 : Addr) (x1 : Int32) : entryFrame m #[(.ref x0), (.int x1)] 4 = mkF m 0 #[.val (.ref x0), .val (.int x1), .unset, .unset] [] := by first | (simp [entryFrame, mkF, argsToLocals, Value.category]; done) | rfl
def Q_fill (Z : State) (a1 : Addr) (p2 : Int32) (n : Nat) (kc : ClassId) (h0 : Heap) (n0 : Nat) (v : Option Value) (h : Heap) (L : List Loc) : Prop := v = none ∧ Fr n0 L ∧ Keep h0 h [a1] ∧ Arv Z h a1 kc .int (Int32.ofNat n) (List.replicate n (.int p2)) (.int 0)
set_option maxRecDepth 65536 in
set_option maxHeartbeats 40000000 in
theorem rm_fill (l : Launch) (Z : State) (a0 : Array Value) (hw : ∀ d ∈ tables_1, d.before a0 Z = true) (ws : List Jvm.Cond) (a1 : Addr) (p2 : Int32) (n : Nat) (kc : ClassId) (h0 : Heap) (n0 : Nat) (Z0 : n0 ≤ h0.size) (hn : n ≤ 16) (g : n0 ≤ a1) (A : Arv Z h0 a1 kc .int (Int32.ofNat n) [] (.int 0)) :
    MetFree l (⟨"java/util/Arrays", "fill", "([II)V"⟩ : MethodName) (head1 (Jvm.Cond.code (⟨"java/util/Arrays", "fill", "([II)V"⟩ : MethodName) jdk_65_method_103_code 4 none :: ws) ({ frames := 0, cells := 0, slots := 0, locals := 0 } : Room)) (fun a U => a = #[(.ref a1), (.int p2)] ∧ Z.Warmed39 U.vm ∧ U.heap = h0) (fun _ _ _ _ _ => True) (fun _ U o U' => ∃ v L, o = .returned v ∧ Q_fill Z a1 p2 n kc h0 n0 v U'.heap L ∧ FrameEnd U o U' L ({ frames := 0, cells := 0, slots := 0, locals := 0 } : Room).cells ({ frames := 0, cells := 0, slots := 0, locals := 0 } : Room).slots) := by
  refine MetFree.of_bodySF (plainFor_of_name own_pn_java_util_Arrays) hisR ?_
  intro p e s m args below meth c s₁ Bd hml0 hP hK
  obtain ⟨rfl, hZ, hh⟩ := hP
  have hx := Bd.exec
  have hby := Bd.bytes
  have hml : c.maxLocals = 4 := hml0
  have hown : s.vm.findClass "java/util/Arrays" = some m.cls := findClass_of_methodNamed Bd.named
  have hnm := (name_of_methodNamed Bd.named Bd.method).1
  have X0 : Stand p l e ({ frames := 0, cells := 0, slots := 0, locals := 0 } : Room) s m #[(.ref a1), (.int p2)] below meth c s₁ [] 0 0 := Stand.of_body Bd
  have e0 : s₁.heap = h0 := by rw [← hh, Bd.state]; rfl
  have N0 := Fr.nil n0
  have pre0 : ∀ t, Steps p.tables e below (s₁.setTop (mkF m 0 #[.val (.ref a1), .val (.int p2), .unset, .unset] [])) t → Steps p.tables e below (s₁.setTop (entryFrame m #[(.ref a1), (.int p2)] 4)) t := fun t k => castTop (own_ef_fill m a1 p2) k
  obtain ⟨T9, h9, locs9, X9, e9, N9, K9, A9, st9⟩ := own_fill a1 p2 kc n n0 hn g hx hZ hw hby hml hown n 0 s₁ [] h0 X0 e0 N0 Z0 (by omega) A
  obtain ⟨cl, Ar, ck, S, Ng, Hs, Ft⟩ := A
  obtain ⟨fs, hr, hrun, hended, hW, hsame⟩ := X9.leave (v := none) (fun _ => rfl)
  refine ⟨_, _, pre0 _ ?_, hrun, hended, _, _, rfl, ?_, ⟨_, rfl⟩, hW, hsame.mono (by decide) (by decide)⟩
  · show Steps p.tables e below (s₁.setTop (mkF m 0 #[.val (.ref a1), .val (.int p2), .unset, .unset] [])) _
    refine XS.iconst X0.here hx rfl (hb hby own_djdk_65_103_0) ?_
    show Steps p.tables e below (s₁.setTop (mkF m 1 #[.val (.ref a1), .val (.int p2), .unset, .unset] [(.int (0 : Int32))])) _
    refine XS.istoreN X0.here hx rfl (hb hby own_djdk_65_103_1) rfl (l' := #[.val (.ref a1), .val (.int p2), .val (.int (0 : Int32)), .unset]) rfl ?_
    show Steps p.tables e below (s₁.setTop (mkF m 2 #[.val (.ref a1), .val (.int p2), .val (.int (0 : Int32)), .unset] [])) _
    refine XS.aloadN X0.here hx rfl (hb hby own_djdk_65_103_2) rfl rfl ?_
    show Steps p.tables e below (s₁.setTop (mkF m 3 #[.val (.ref a1), .val (.int p2), .val (.int (0 : Int32)), .unset] [(.ref a1)])) _
    refine X0.arraylength hx (by rw [e0]; exact Ar.1) (State.isArrayOf_alike hZ.alike Ar.2.1) (g := (mkF m 3 #[.val (.ref a1), .val (.int p2), .val (.int (0 : Int32)), .unset] [(.ref a1)])) rfl rfl (hb hby own_djdk_65_103_3) _ ?_
    rw [len_of S Ng]
    show Steps p.tables e below (s₁.setTop (mkF m 4 #[.val (.ref a1), .val (.int p2), .val (.int (0 : Int32)), .unset] [(.int (Int32.ofNat n))])) _
    refine XS.istoreN X0.here hx rfl (hb hby own_djdk_65_103_4) rfl (l' := #[.val (.ref a1), .val (.int p2), .val (.int (0 : Int32)), .val (.int (Int32.ofNat n))]) rfl ?_
    show Steps p.tables e below (s₁.setTop (mkF m 5 #[.val (.ref a1), .val (.int p2), .val (.int (0 : Int32)), .val (.int (Int32.ofNat n))] [])) _
    refine st9 _ ?_
    show Steps p.tables e below (T9.setTop (mkF m 20 #[.val (.ref a1), .val (.int p2), .val (.int (Int32.ofNat n)), .val (.int (Int32.ofNat n))] [])) _
    exact X9.returnOut hx Bd.returns (hb hby own_djdk_65_103_20) hr
  · show Q_fill Z a1 p2 n kc h0 n0 _ T9.heap _
    rw [e9]
    exact ⟨rfl, N9, K9, A9⟩
theorem own_dprog_91_1_0 : decode prog_91_method_1_code 0 = .ok (.aload_n 0, 1) := by decide +kernel
theorem own_dprog_91_1_1 : decode prog_91_method_1_code 1 = .ok (.invokespecial 3, 3) := by decide +kernel
theorem own_dprog_91_1_4 : decode prog_91_method_1_code 4 = .ok (.iconst 1, 1) := by decide +kernel
theorem own_dprog_91_1_5 : decode prog_91_method_1_code 5 = .ok (.istore_n 2, 1) := by decide +kernel
theorem own_dprog_91_1_6 : decode prog_91_method_1_code 6 = .ok (.iload_n 2, 1) := by decide +kernel
theorem own_dprog_91_1_7 : decode prog_91_method_1_code 7 = .ok (.iload_n 1, 1) := by decide +kernel
theorem own_dprog_91_1_8 : decode prog_91_method_1_code 8 = .ok (.if_icmp .ge 10, 3) := by decide +kernel
theorem own_dprog_91_1_11 : decode prog_91_method_1_code 11 = .ok (.iload_n 2, 1) := by decide +kernel
theorem own_dprog_91_1_12 : decode prog_91_method_1_code 12 = .ok (.iconst 2, 1) := by decide +kernel
theorem own_dprog_91_1_13 : decode prog_91_method_1_code 13 = .ok (.imul, 1) := by decide +kernel
theorem own_dprog_91_1_14 : decode prog_91_method_1_code 14 = .ok (.istore_n 2, 1) := by decide +kernel
theorem own_dprog_91_1_15 : decode prog_91_method_1_code 15 = .ok (.goto (-9), 3) := by decide +kernel
theorem own_dprog_91_1_18 : decode prog_91_method_1_code 18 = .ok (.aload_n 0, 1) := by decide +kernel
theorem own_dprog_91_1_19 : decode prog_91_method_1_code 19 = .ok (.iload_n 2, 1) := by decide +kernel
theorem own_dprog_91_1_20 : decode prog_91_method_1_code 20 = .ok (.putfield 9, 3) := by decide +kernel
theorem own_dprog_91_1_23 : decode prog_91_method_1_code 23 = .ok (.aload_n 0, 1) := by decide +kernel
theorem own_dprog_91_1_24 : decode prog_91_method_1_code 24 = .ok (.iconst 2, 1) := by decide +kernel
theorem own_dprog_91_1_25 : decode prog_91_method_1_code 25 = .ok (.iload_n 2, 1) := by decide +kernel
theorem own_dprog_91_1_26 : decode prog_91_method_1_code 26 = .ok (.imul, 1) := by decide +kernel
theorem own_dprog_91_1_27 : decode prog_91_method_1_code 27 = .ok (.newarray .int, 2) := by decide +kernel
theorem own_dprog_91_1_29 : decode prog_91_method_1_code 29 = .ok (.putfield 15, 3) := by decide +kernel
theorem own_dprog_91_1_32 : decode prog_91_method_1_code 32 = .ok (.aload_n 0, 1) := by decide +kernel
theorem own_dprog_91_1_33 : decode prog_91_method_1_code 33 = .ok (.getfield 15, 3) := by decide +kernel
theorem own_dprog_91_1_36 : decode prog_91_method_1_code 36 = .ok (.ldc 19, 2) := by decide +kernel
theorem own_dprog_91_1_38 : decode prog_91_method_1_code 38 = .ok (.invokestatic 20, 3) := by decide +kernel
theorem own_dprog_91_1_41 : decode prog_91_method_1_code 41 = .ok (.return_, 1) := by decide +kernel
set_option maxRecDepth 65536 in
set_option maxHeartbeats 40000000 in
theorem own_lturn {p : Program} {l : Launch} {e : Env} {R : Room} {s : State} {m : MethodId} {args : Array Value} {below : List Frame} {meth : Method} {c : Code} {T0 : State} {locs : List Loc} {cells slots : Nat} {Z : State} {a0 : Array Value} {h0 : Heap} (a1 : Addr) (p2 j : Int32)
    (X0 : Stand p l e R s m args below meth c T0 locs cells slots) (hx : p.tables.exec = Jvm.exec) (hZ : Z.Warmed39 s.vm) (hw : ∀ d ∈ tables_1, d.before a0 Z = true) (hby : c.code = prog_91_method_1_code) (hml : c.maxLocals = 3) (hown : s.vm.findClass "com/example/unknot/unknot/sp/MinTree" = some m.cls) (e0 : T0.heap = h0) (hlt : j < p2) :
     ∀ target, Steps p.tables e below (T0.setTop (mkF m 6 #[.val (.ref a1), .val (.int p2), .val (.int (j * (2 : Int32)))] [])) target → Steps p.tables e below (T0.setTop (mkF m 6 #[.val (.ref a1), .val (.int p2), .val (.int j)] [])) target := by
  intro target kt
  show Steps p.tables e below (T0.setTop (mkF m 6 #[.val (.ref a1), .val (.int p2), .val (.int j)] [])) _
  refine XS.iloadN X0.here hx rfl (hb hby own_dprog_91_1_6) rfl ?_
  show Steps p.tables e below (T0.setTop (mkF m 7 #[.val (.ref a1), .val (.int p2), .val (.int j)] [(.int j)])) _
  refine XS.iloadN X0.here hx rfl (hb hby own_dprog_91_1_7) rfl ?_
  show Steps p.tables e below (T0.setTop (mkF m 8 #[.val (.ref a1), .val (.int p2), .val (.int j)] [(.int p2), (.int j)])) _
  refine XS.icmpNo X0.here hx rfl (hb hby own_dprog_91_1_8) rfl (tlt hlt).2.1 ?_
  show Steps p.tables e below (T0.setTop (mkF m 11 #[.val (.ref a1), .val (.int p2), .val (.int j)] [])) _
  refine XS.iloadN X0.here hx rfl (hb hby own_dprog_91_1_11) rfl ?_
  show Steps p.tables e below (T0.setTop (mkF m 12 #[.val (.ref a1), .val (.int p2), .val (.int j)] [(.int j)])) _
  refine XS.iconst X0.here hx rfl (hb hby own_dprog_91_1_12) ?_
  show Steps p.tables e below (T0.setTop (mkF m 13 #[.val (.ref a1), .val (.int p2), .val (.int j)] [(.int (2 : Int32)), (.int j)])) _
  refine XS.imul X0.here hx rfl (hb hby own_dprog_91_1_13) rfl ?_
  show Steps p.tables e below (T0.setTop (mkF m 14 #[.val (.ref a1), .val (.int p2), .val (.int j)] [(.int (j * (2 : Int32)))])) _
  refine XS.istoreN X0.here hx rfl (hb hby own_dprog_91_1_14) rfl (l' := #[.val (.ref a1), .val (.int p2), .val (.int (j * (2 : Int32)))]) rfl ?_
  show Steps p.tables e below (T0.setTop (mkF m 15 #[.val (.ref a1), .val (.int p2), .val (.int (j * (2 : Int32)))] [])) _
  refine XS.goto X0.here hx rfl (pc0 := 15) (pc' := 6) rfl (hb hby own_dprog_91_1_15) (by decide) (by decide) ?_
  exact kt
set_option maxRecDepth 65536 in
set_option maxHeartbeats 40000000 in
theorem own_lleave {p : Program} {l : Launch} {e : Env} {R : Room} {s : State} {m : MethodId} {args : Array Value} {below : List Frame} {meth : Method} {c : Code} {T0 : State} {locs : List Loc} {cells slots : Nat} {Z : State} {a0 : Array Value} {h0 : Heap} (a1 : Addr) (p2 j : Int32)
    (X0 : Stand p l e R s m args below meth c T0 locs cells slots) (hx : p.tables.exec = Jvm.exec) (hZ : Z.Warmed39 s.vm) (hw : ∀ d ∈ tables_1, d.before a0 Z = true) (hby : c.code = prog_91_method_1_code) (hml : c.maxLocals = 3) (hown : s.vm.findClass "com/example/unknot/unknot/sp/MinTree" = some m.cls) (e0 : T0.heap = h0) (hlt : ¬ j < p2) :
     ∀ target, Steps p.tables e below (T0.setTop (mkF m 18 #[.val (.ref a1), .val (.int p2), .val (.int j)] [])) target → Steps p.tables e below (T0.setTop (mkF m 6 #[.val (.ref a1), .val (.int p2), .val (.int j)] [])) target := by
  intro target kt
  show Steps p.tables e below (T0.setTop (mkF m 6 #[.val (.ref a1), .val (.int p2), .val (.int j)] [])) _
  refine XS.iloadN X0.here hx rfl (hb hby own_dprog_91_1_6) rfl ?_
  show Steps p.tables e below (T0.setTop (mkF m 7 #[.val (.ref a1), .val (.int p2), .val (.int j)] [(.int j)])) _
  refine XS.iloadN X0.here hx rfl (hb hby own_dprog_91_1_7) rfl ?_
  show Steps p.tables e below (T0.setTop (mkF m 8 #[.val (.ref a1), .val (.int p2), .val (.int j)] [(.int p2), (.int j)])) _
  refine XS.icmpYes X0.here hx rfl (pc0 := 8) (pc' := 18) rfl (hb hby own_dprog_91_1_8) rfl (flt hlt).2.1 (by decide) (by decide) ?_
  exact kt
theorem own_lloop {p : Program} {l : Launch} {e : Env} {R : Room} {s : State} {m : MethodId} {args : Array Value} {below : List Frame} {meth : Method} {c : Code} {Z : State} {a0 : Array Value} {T0 : State} {locs : List Loc} {cells slots : Nat} {h0 : Heap} (a1 : Addr) (n : Nat) (hn1 : 1 ≤ n) (hn5 : n ≤ 5) (X0 : Stand p l e R s m args below meth c T0 locs cells slots) (hx : p.tables.exec = Jvm.exec) (hZ : Z.Warmed39 s.vm) (hw : ∀ d ∈ tables_1, d.before a0 Z = true) (hby : c.code = prog_91_method_1_code) (hml : c.maxLocals = 3) (hown : s.vm.findClass "com/example/unknot/unknot/sp/MinTree" = some m.cls) (e0 : T0.heap = h0) (target : State)
    (kt : Steps p.tables e below (T0.setTop (mkF m 18 #[.val (.ref a1), .val (.int (Int32.ofNat n)), .val (.int (Int32.ofNat (own_lv n)))] [])) target) : Steps p.tables e below (T0.setTop (mkF m 6 #[.val (.ref a1), .val (.int (Int32.ofNat n)), .val (.int (1 : Int32))] [])) target := by
  match n, hn1, hn5 with
  | 1, _, _ =>
    rw [show Int32.ofNat (own_lv 1) = (1 : Int32) from by decide] at kt
    exact own_lleave a1 (Int32.ofNat 1) (1 : Int32) X0 hx hZ hw hby hml hown e0 (by decide) target kt
  | 2, _, _ =>
    rw [show Int32.ofNat (own_lv 2) = ((1 : Int32) * (2 : Int32)) from by decide] at kt
    refine own_lturn a1 (Int32.ofNat 2) (1 : Int32) X0 hx hZ hw hby hml hown e0 (by decide) target ?_
    exact own_lleave a1 (Int32.ofNat 2) ((1 : Int32) * (2 : Int32)) X0 hx hZ hw hby hml hown e0 (by decide) target kt
  | 3, _, _ =>
    rw [show Int32.ofNat (own_lv 3) = (((1 : Int32) * (2 : Int32)) * (2 : Int32)) from by decide] at kt
    refine own_lturn a1 (Int32.ofNat 3) (1 : Int32) X0 hx hZ hw hby hml hown e0 (by decide) target ?_
    refine own_lturn a1 (Int32.ofNat 3) ((1 : Int32) * (2 : Int32)) X0 hx hZ hw hby hml hown e0 (by decide) target ?_
    exact own_lleave a1 (Int32.ofNat 3) (((1 : Int32) * (2 : Int32)) * (2 : Int32)) X0 hx hZ hw hby hml hown e0 (by decide) target kt
  | 4, _, _ =>
    rw [show Int32.ofNat (own_lv 4) = (((1 : Int32) * (2 : Int32)) * (2 : Int32)) from by decide] at kt
    refine own_lturn a1 (Int32.ofNat 4) (1 : Int32) X0 hx hZ hw hby hml hown e0 (by decide) target ?_
    refine own_lturn a1 (Int32.ofNat 4) ((1 : Int32) * (2 : Int32)) X0 hx hZ hw hby hml hown e0 (by decide) target ?_
    exact own_lleave a1 (Int32.ofNat 4) (((1 : Int32) * (2 : Int32)) * (2 : Int32)) X0 hx hZ hw hby hml hown e0 (by decide) target kt
  | 5, _, _ =>
    rw [show Int32.ofNat (own_lv 5) = ((((1 : Int32) * (2 : Int32)) * (2 : Int32)) * (2 : Int32)) from by decide] at kt
    refine own_lturn a1 (Int32.ofNat 5) (1 : Int32) X0 hx hZ hw hby hml hown e0 (by decide) target ?_
    refine own_lturn a1 (Int32.ofNat 5) ((1 : Int32) * (2 : Int32)) X0 hx hZ hw hby hml hown e0 (by decide) target ?_
    refine own_lturn a1 (Int32.ofNat 5) (((1 : Int32) * (2 : Int32)) * (2 : Int32)) X0 hx hZ hw hby hml hown e0 (by decide) target ?_
    exact own_lleave a1 (Int32.ofNat 5) ((((1 : Int32) * (2 : Int32)) * (2 : Int32)) * (2 : Int32)) X0 hx hZ hw hby hml hown e0 (by decide) target kt
theorem own_pd0 : parseMethodDescriptor "([II)V" = some ⟨[(.array .int), .int], none⟩ := by decide +kernel
theorem own_pn_com_example_unknot_unknot_sp_MinTree : plainName "com/example/unknot/unknot/sp/MinTree" = true := by first | (simp [plainName, overriddenIn]; done) | decide +kernel
theorem own_ef_ini (m : MethodId) (x0 : Addr) (x1 : Int32) : entryFrame m #[(.ref x0), (.int x1)] 3 = mkF m 0 #[.val (.ref x0), .val (.int x1), .unset] [] := by first | (simp [entryFrame, mkF, argsToLocals, Value.category]; done) | rfl
def Q_ini (Z : State) (a1 : Addr) (p2 : Int32) (n : Nat) (u1 : Value) (u2 : Value) (h0 : Heap) (n0 : Nat) (v : Option Value) (h : Heap) (L : List Loc) : Prop := v = none ∧ Fr n0 L ∧ Keep h0 h [a1] ∧ ∃ (b : Addr) (k : ClassId), n0 ≤ b ∧ own_Tree Z h a1 b k (own_lv n) (List.replicate (2 * own_lv n) (2147483647 : Int32))
set_option maxRecDepth 65536 in
set_option maxHeartbeats 40000000 in
theorem rm_ini (l : Launch) (Z : State) (a0 : Array Value) (hw : ∀ d ∈ tables_1, d.before a0 Z = true) (ws : List Jvm.Cond) (a1 : Addr) (p2 : Int32) (n : Nat) (u1 : Value) (u2 : Value) (h0 : Heap) (n0 : Nat) (Z0 : n0 ≤ h0.size) (hp : p2 = Int32.ofNat n) (hn1 : 1 ≤ n) (hn5 : n ≤ 5) (E : Exa Z h0 a1 "com/example/unknot/unknot/sp/MinTree") (F1 : Fld Z h0 a1 "com/example/unknot/unknot/sp/MinTree" "leaves" "I" u1) (F2 : Fld Z h0 a1 "com/example/unknot/unknot/sp/MinTree" "least" "[I" u2) (g : n0 ≤ a1) :
    MetFree l (⟨"com/example/unknot/unknot/sp/MinTree", "<init>", "(I)V"⟩ : MethodName) (head1 (Jvm.Cond.code (⟨"com/example/unknot/unknot/sp/MinTree", "<init>", "(I)V"⟩ : MethodName) prog_91_method_1_code 3 none :: ws) ({ frames := 1, cells := 1, slots := 16, locals := 15 } : Room)) (fun a U => a = #[(.ref a1), (.int p2)] ∧ Z.Warmed39 U.vm ∧ U.heap = h0) (fun _ _ _ _ _ => True) (fun _ U o U' => ∃ v L, o = .returned v ∧ Q_ini Z a1 p2 n u1 u2 h0 n0 v U'.heap L ∧ FrameEnd U o U' L ({ frames := 1, cells := 1, slots := 16, locals := 15 } : Room).cells ({ frames := 1, cells := 1, slots := 16, locals := 15 } : Room).slots) := by
  refine MetFree.of_bodySF (plainFor_of_name own_pn_com_example_unknot_unknot_sp_MinTree) hisR ?_
  intro p e s m args below meth c s₁ Bd hml0 hP hK
  obtain ⟨rfl, hZ, hh⟩ := hP
  have hx := Bd.exec
  have hby := Bd.bytes
  have hml : c.maxLocals = 3 := hml0
  have hown : s.vm.findClass "com/example/unknot/unknot/sp/MinTree" = some m.cls := findClass_of_methodNamed Bd.named
  have hnm := (name_of_methodNamed Bd.named Bd.method).1
  have X0 : Stand p l e ({ frames := 1, cells := 1, slots := 16, locals := 15 } : Room) s m #[(.ref a1), (.int p2)] below meth c s₁ [] 0 0 := Stand.of_body Bd
  have e0 : s₁.heap = h0 := by rw [← hh, Bd.state]; rfl
  have N0 := Fr.nil n0
  have pre0 : ∀ t, Steps p.tables e below (s₁.setTop (mkF m 0 #[.val (.ref a1), .val (.int p2), .unset] [])) t → Steps p.tables e below (s₁.setTop (entryFrame m #[(.ref a1), (.int p2)] 3)) t := fun t k => castTop (own_ef_ini m a1 p2) k
  obtain ⟨lv, hlv⟩ : ∃ z, z = own_lv n := ⟨_, rfl⟩
  have hl := own_lvB n
  rw [← hlv] at hl
  have h2l : (2 : Int32) * Int32.ofNat lv = Int32.ofNat (2 * lv) := (own_one17 ⟨lv, by omega⟩).2.1
  have hq := own_one17 ⟨2 * lv, by omega⟩
  simp only at hq
  obtain ⟨T1, X1, e1, st1⟩ := initO X0 hx hZ hown (hw _ (List.mem_of_getElem? (i := 6) rfl)) (hw _ (List.mem_of_getElem? (i := 7) rfl)) (hw _ (List.mem_of_getElem? (i := 8) rfl)) e0 (g := (mkF m 1 #[.val (.ref a1), .val (.int p2), .unset] [(.ref a1)])) rfl (by rw [hml]; rfl) rfl (hb hby own_dprog_91_1_1) (by decide) (W := 0) (by show 2 * 0 + _ ≤ _; exact Nat.le_of_eq rfl) (by decide)
  obtain ⟨T2, h2, X2, e2, W2, st2⟩ := putF X1 hx hZ hown (host := "") (Or.inl (hw _ (List.mem_of_getElem? (i := 9) rfl))) Via.refl e1 F1 E (Or.inr ⟨(hw _ (List.mem_of_getElem? (i := 10) rfl)), rfl, hnm⟩) (hw _ (List.mem_of_getElem? (i := 1) rfl)) (ty := .int) (by decide) rfl rfl (g := (mkF m 20 #[.val (.ref a1), .val (.int (Int32.ofNat n)), .val (.int (Int32.ofNat lv))] [(.int (Int32.ofNat lv)), (.ref a1)])) rfl rfl (hb hby own_dprog_91_1_20)
  have N2 := Fr.snoc X2 N0 g
  have sz2 : n0 ≤ h2.size := Nat.le_trans Z0 (Keep.of_wr W2).1
  have E1 := E.wr W2
  have F1a := F1.same W2
  have F2a := (F2.other W2 (Or.inr (slot_ne (Or.inr (hw _ (List.mem_of_getElem? (i := 13) rfl))) (Or.inr (hw _ (List.mem_of_getElem? (i := 10) rfl))) (by decide) (t := (.array .int)) (t' := .int) (by decide) (by decide))))
  have K1 : Keep h0 h2 [a1] := (Keep.refl h0 [a1]).wr W2 (Or.inl (List.mem_of_getElem? (i := 0) rfl))
  obtain ⟨T3, h3, k3, X3, e3, E3, A3, st3⟩ := newP X2 hx hZ (hw _ (List.mem_of_getElem? (i := 11) rfl)) e2 (g := (mkF m 27 #[.val (.ref a1), .val (.int (Int32.ofNat n)), .val (.int (Int32.ofNat lv))] [(.int (Int32.ofNat (2 * lv))), (.ref a1)])) rfl (hb hby own_dprog_91_1_27) rfl hq.2.2.2.2.1 (cap := 16) (by rw [hq.2.2.2.2.2.1]; omega) (by decide) (by decide) (by decide)
  obtain ⟨b, g3⟩ : ∃ z, z = h2.size := ⟨_, rfl⟩
  rw [← g3] at A3 st3
  have gn_b : n0 ≤ b := Nat.le_trans sz2 (Nat.le_of_eq g3.symm)
  have sz3 : n0 ≤ h3.size := Nat.le_trans sz2 E3.1
  have Xe1 := E3
  have ze1 := g3
  have V1 : Arv Z h3 b k3 .int (Int32.ofNat (2 * lv)) [] (.int 0) := Arv.new A3 hq.2.2.2.2.1
  have K2 := K1.ext Xe1
  have E2 := E1.ext Xe1
  have F1b := F1a.ext Xe1
  have F2b := F2a.ext Xe1
  have hab : a1 ≠ b := Nat.ne_of_lt (Nat.lt_of_lt_of_le E1.lt (Nat.le_of_eq ze1.symm))
  obtain ⟨T4, h4, X4, e4, W4, st4⟩ := putF X3 hx hZ hown (host := "") (Or.inl (hw _ (List.mem_of_getElem? (i := 12) rfl))) Via.refl e3 F2b E2 (Or.inr ⟨(hw _ (List.mem_of_getElem? (i := 13) rfl)), rfl, hnm⟩) (hw _ (List.mem_of_getElem? (i := 1) rfl)) (ty := (.array .int)) (by decide) rfl rfl (g := (mkF m 29 #[.val (.ref a1), .val (.int (Int32.ofNat n)), .val (.int (Int32.ofNat lv))] [(.ref b), (.ref a1)])) rfl rfl (hb hby own_dprog_91_1_29)
  have N4 := Fr.snoc X4 N2 g
  have sz4 : n0 ≤ h4.size := Nat.le_trans sz3 (Keep.of_wr W4).1
  have E3 := E2.wr W4
  have F2c := F2b.same W4
  have F1c := (F1b.other W4 (Or.inr (slot_ne (Or.inr (hw _ (List.mem_of_getElem? (i := 10) rfl))) (Or.inr (hw _ (List.mem_of_getElem? (i := 13) rfl))) (by decide) (t := .int) (t' := (.array .int)) (by decide) (by decide))))
  have V2 := V1.other W4 (Ne.symm hab)
  have K3 : Keep h0 h4 [a1] := K2.wr W4 (Or.inl (List.mem_of_getElem? (i := 0) rfl))
  obtain ⟨T5, X5, e5, st5⟩ := getF X4 hx hZ hown (host := "") (Or.inl (hw _ (List.mem_of_getElem? (i := 12) rfl))) Via.refl e4 F2c (g := (mkF m 33 #[.val (.ref a1), .val (.int (Int32.ofNat n)), .val (.int (Int32.ofNat lv))] [(.ref a1)])) rfl rfl (hb hby own_dprog_91_1_33)
  obtain ⟨_, _, ⟨T6, L6, k6, n6⟩, -, X6, ⟨Lc6, hQ6, l6, y6, z6⟩, st6⟩ := Jvm.LawKit.callS X5 hx (y := (⟨"java/util/Arrays", "fill", "([II)V"⟩ : MethodName)) hown (mvT hZ (hw _ (List.mem_of_getElem? (i := 15) rfl))) (mvT hZ (hw _ (List.mem_of_getElem? (i := 16) rfl))) (mvT hZ (hw _ (List.mem_of_getElem? (i := 17) rfl))) (mvT hZ (hw _ (List.mem_of_getElem? (i := 18) rfl))) (by decide) (backOf (W := 0) (rm_fill l Z a0 hw [] b (2147483647 : Int32) (2 * lv) k3 h4 n0 sz4 (by omega) gn_b V2) hZ (hw _ (List.mem_of_getElem? (i := 18) rfl)) (hw _ (List.mem_of_getElem? (i := 17) rfl)) (by decide) (by decide)) (g := (mkF m 38 #[.val (.ref a1), .val (.int (Int32.ofNat n)), .val (.int (Int32.ofNat lv))] [(.int (2147483647 : Int32)), (.ref b)])) rfl (by rw [hml]; rfl) (argsL := [(.ref b), (.int (2147483647 : Int32))]) (rest := []) (lenOf own_pd0 rfl) rfl (by show 2 * 0 + _ ≤ _; exact Nat.le_of_eq rfl) (hb hby own_dprog_91_1_38) (fun _ _ => ⟨rfl, e5, (by decide : 1 + 0 ≤ _), (by decide : 16 + 0 ≤ _)⟩)
  dsimp only [Pt.U, Pt.locs, Pt.cells, Pt.slots] at X6 l6 y6 z6 st6 hQ6
  rw [l6, y6, z6] at X6
  obtain ⟨rfl, Nq6, K4, V3⟩ := hQ6
  have sz6 : n0 ≤ T6.heap.size := Nat.le_trans sz4 K4.1
  have N6 := Fr.app N4 Nq6
  have Tr : own_Tree Z T6.heap a1 b k3 lv (List.replicate (2 * lv) (2147483647 : Int32)) := ⟨E3.keep K4, F1c.keep K4 (ninS hab nin0), F2c.keep K4 (ninS hab nin0), by rw [List.map_replicate]; exact V3, by simp, hab⟩
  have K5 : Keep h0 T6.heap [a1] := K3.trans K4 (fun x hx => Or.inr (by cases List.mem_singleton.mp hx; exact Nat.le_trans (Keep.trans K1 (Keep.refl _ []) (fun _ q => nomatch q)).1 (Nat.le_of_eq ze1.symm)))
  obtain ⟨fs, hr, hrun, hended, hW, hsame⟩ := X6.leave (v := none) (fun _ => rfl)
  refine ⟨_, _, pre0 _ ?_, hrun, hended, _, _, rfl, ?_, ⟨_, rfl⟩, hW, hsame.mono (by decide) (by decide)⟩
  · show Steps p.tables e below (s₁.setTop (mkF m 0 #[.val (.ref a1), .val (.int p2), .unset] [])) _
    refine XS.aloadN X0.here hx rfl (hb hby own_dprog_91_1_0) rfl rfl ?_
    show Steps p.tables e below (s₁.setTop (mkF m 1 #[.val (.ref a1), .val (.int p2), .unset] [(.ref a1)])) _
    refine st1 _ ?_
    show Steps p.tables e below (T1.setTop (mkF m 4 #[.val (.ref a1), .val (.int p2), .unset] [])) _
    refine XS.iconst X1.here hx rfl (hb hby own_dprog_91_1_4) ?_
    show Steps p.tables e below (T1.setTop (mkF m 5 #[.val (.ref a1), .val (.int p2), .unset] [(.int (1 : Int32))])) _
    refine XS.istoreN X1.here hx rfl (hb hby own_dprog_91_1_5) rfl (l' := #[.val (.ref a1), .val (.int p2), .val (.int (1 : Int32))]) rfl ?_
    show Steps p.tables e below (T1.setTop (mkF m 6 #[.val (.ref a1), .val (.int p2), .val (.int (1 : Int32))] [])) _
    rw [hp]
    show Steps p.tables e below (T1.setTop (mkF m 6 #[.val (.ref a1), .val (.int (Int32.ofNat n)), .val (.int (1 : Int32))] [])) _
    refine own_lloop a1 n hn1 hn5 X1 hx hZ hw hby hml hown e1 _ ?_
    rw [← hlv]
    show Steps p.tables e below (T1.setTop (mkF m 18 #[.val (.ref a1), .val (.int (Int32.ofNat n)), .val (.int (Int32.ofNat lv))] [])) _
    refine XS.aloadN X1.here hx rfl (hb hby own_dprog_91_1_18) rfl rfl ?_
    show Steps p.tables e below (T1.setTop (mkF m 19 #[.val (.ref a1), .val (.int (Int32.ofNat n)), .val (.int (Int32.ofNat lv))] [(.ref a1)])) _
    refine XS.iloadN X1.here hx rfl (hb hby own_dprog_91_1_19) rfl ?_
    show Steps p.tables e below (T1.setTop (mkF m 20 #[.val (.ref a1), .val (.int (Int32.ofNat n)), .val (.int (Int32.ofNat lv))] [(.int (Int32.ofNat lv)), (.ref a1)])) _
    refine st2 _ ?_
    show Steps p.tables e below (T2.setTop (mkF m 23 #[.val (.ref a1), .val (.int (Int32.ofNat n)), .val (.int (Int32.ofNat lv))] [])) _
    refine XS.aloadN X2.here hx rfl (hb hby own_dprog_91_1_23) rfl rfl ?_
    show Steps p.tables e below (T2.setTop (mkF m 24 #[.val (.ref a1), .val (.int (Int32.ofNat n)), .val (.int (Int32.ofNat lv))] [(.ref a1)])) _
    refine XS.iconst X2.here hx rfl (hb hby own_dprog_91_1_24) ?_
    show Steps p.tables e below (T2.setTop (mkF m 25 #[.val (.ref a1), .val (.int (Int32.ofNat n)), .val (.int (Int32.ofNat lv))] [(.int (2 : Int32)), (.ref a1)])) _
    refine XS.iloadN X2.here hx rfl (hb hby own_dprog_91_1_25) rfl ?_
    show Steps p.tables e below (T2.setTop (mkF m 26 #[.val (.ref a1), .val (.int (Int32.ofNat n)), .val (.int (Int32.ofNat lv))] [(.int (Int32.ofNat lv)), (.int (2 : Int32)), (.ref a1)])) _
    refine XS.imul X2.here hx rfl (hb hby own_dprog_91_1_26) rfl ?_
    show Steps p.tables e below (T2.setTop (mkF m 27 #[.val (.ref a1), .val (.int (Int32.ofNat n)), .val (.int (Int32.ofNat lv))] [(.int ((2 : Int32) * (Int32.ofNat lv))), (.ref a1)])) _
    rw [h2l]
    show Steps p.tables e below (T2.setTop (mkF m 27 #[.val (.ref a1), .val (.int (Int32.ofNat n)), .val (.int (Int32.ofNat lv))] [(.int (Int32.ofNat (2 * lv))), (.ref a1)])) _
    refine st3 _ ?_
    show Steps p.tables e below (T3.setTop (mkF m 29 #[.val (.ref a1), .val (.int (Int32.ofNat n)), .val (.int (Int32.ofNat lv))] [(.ref b), (.ref a1)])) _
    refine st4 _ ?_
    show Steps p.tables e below (T4.setTop (mkF m 32 #[.val (.ref a1), .val (.int (Int32.ofNat n)), .val (.int (Int32.ofNat lv))] [])) _
    refine XS.aloadN X4.here hx rfl (hb hby own_dprog_91_1_32) rfl rfl ?_
    show Steps p.tables e below (T4.setTop (mkF m 33 #[.val (.ref a1), .val (.int (Int32.ofNat n)), .val (.int (Int32.ofNat lv))] [(.ref a1)])) _
    refine st5 _ ?_
    show Steps p.tables e below (T5.setTop (mkF m 36 #[.val (.ref a1), .val (.int (Int32.ofNat n)), .val (.int (Int32.ofNat lv))] [(.ref b)])) _
    refine X5.ldcI hx (v := (2147483647 : Int32)) hown (mvT hZ (hw _ (List.mem_of_getElem? (i := 14) rfl))) (g := (mkF m 36 #[.val (.ref a1), .val (.int (Int32.ofNat n)), .val (.int (Int32.ofNat lv))] [(.ref b)])) rfl (hb hby own_dprog_91_1_36) ?_
    show Steps p.tables e below (T5.setTop (mkF m 38 #[.val (.ref a1), .val (.int (Int32.ofNat n)), .val (.int (Int32.ofNat lv))] [(.int (2147483647 : Int32)), (.ref b)])) _
    refine st6 _ ?_
    show Steps p.tables e below (T6.setTop (mkF m 41 #[.val (.ref a1), .val (.int (Int32.ofNat n)), .val (.int (Int32.ofNat lv))] [])) _
    exact X6.returnOut hx Bd.returns (hb hby own_dprog_91_1_41) hr
  · show Q_ini Z a1 p2 n u1 u2 h0 n0 _ T6.heap _
    exact ⟨rfl, N6, K5, b, k3, gn_b, by rw [← hlv]; exact Tr⟩
theorem own_dprog_91_3_0 : decode prog_91_method_3_code 0 = .ok (.aload_n 0, 1) := by decide +kernel
theorem own_dprog_91_3_1 : decode prog_91_method_3_code 1 = .ok (.getfield 9, 3) := by decide +kernel
theorem own_dprog_91_3_4 : decode prog_91_method_3_code 4 = .ok (.iload_n 1, 1) := by decide +kernel
theorem own_dprog_91_3_5 : decode prog_91_method_3_code 5 = .ok (.iadd, 1) := by decide +kernel
theorem own_dprog_91_3_6 : decode prog_91_method_3_code 6 = .ok (.istore_n 3, 1) := by decide +kernel
theorem own_dprog_91_3_7 : decode prog_91_method_3_code 7 = .ok (.aload_n 0, 1) := by decide +kernel
theorem own_dprog_91_3_8 : decode prog_91_method_3_code 8 = .ok (.getfield 15, 3) := by decide +kernel
theorem own_dprog_91_3_11 : decode prog_91_method_3_code 11 = .ok (.iload_n 3, 1) := by decide +kernel
theorem own_dprog_91_3_12 : decode prog_91_method_3_code 12 = .ok (.iload_n 2, 1) := by decide +kernel
theorem own_dprog_91_3_13 : decode prog_91_method_3_code 13 = .ok (.iastore, 1) := by decide +kernel
theorem own_dprog_91_3_14 : decode prog_91_method_3_code 14 = .ok (.iload_n 3, 1) := by decide +kernel
theorem own_dprog_91_3_15 : decode prog_91_method_3_code 15 = .ok (.iconst 2, 1) := by decide +kernel
theorem own_dprog_91_3_16 : decode prog_91_method_3_code 16 = .ok (.idiv, 1) := by decide +kernel
theorem own_dprog_91_3_17 : decode prog_91_method_3_code 17 = .ok (.istore_n 3, 1) := by decide +kernel
theorem own_dprog_91_3_18 : decode prog_91_method_3_code 18 = .ok (.iload_n 3, 1) := by decide +kernel
theorem own_dprog_91_3_19 : decode prog_91_method_3_code 19 = .ok (.iconst 1, 1) := by decide +kernel
theorem own_dprog_91_3_20 : decode prog_91_method_3_code 20 = .ok (.if_icmp .lt 37, 3) := by decide +kernel
theorem own_dprog_91_3_23 : decode prog_91_method_3_code 23 = .ok (.aload_n 0, 1) := by decide +kernel
theorem own_dprog_91_3_24 : decode prog_91_method_3_code 24 = .ok (.getfield 15, 3) := by decide +kernel
theorem own_dprog_91_3_27 : decode prog_91_method_3_code 27 = .ok (.iload_n 3, 1) := by decide +kernel
theorem own_dprog_91_3_28 : decode prog_91_method_3_code 28 = .ok (.aload_n 0, 1) := by decide +kernel
theorem own_dprog_91_3_29 : decode prog_91_method_3_code 29 = .ok (.getfield 15, 3) := by decide +kernel
theorem own_dprog_91_3_32 : decode prog_91_method_3_code 32 = .ok (.iconst 2, 1) := by decide +kernel
theorem own_dprog_91_3_33 : decode prog_91_method_3_code 33 = .ok (.iload_n 3, 1) := by decide +kernel
theorem own_dprog_91_3_34 : decode prog_91_method_3_code 34 = .ok (.imul, 1) := by decide +kernel
theorem own_dprog_91_3_35 : decode prog_91_method_3_code 35 = .ok (.iaload, 1) := by decide +kernel
theorem own_dprog_91_3_36 : decode prog_91_method_3_code 36 = .ok (.aload_n 0, 1) := by decide +kernel
theorem own_dprog_91_3_37 : decode prog_91_method_3_code 37 = .ok (.getfield 15, 3) := by decide +kernel
theorem own_dprog_91_3_40 : decode prog_91_method_3_code 40 = .ok (.iconst 2, 1) := by decide +kernel
theorem own_dprog_91_3_41 : decode prog_91_method_3_code 41 = .ok (.iload_n 3, 1) := by decide +kernel
theorem own_dprog_91_3_42 : decode prog_91_method_3_code 42 = .ok (.imul, 1) := by decide +kernel
theorem own_dprog_91_3_43 : decode prog_91_method_3_code 43 = .ok (.iconst 1, 1) := by decide +kernel
theorem own_dprog_91_3_44 : decode prog_91_method_3_code 44 = .ok (.iadd, 1) := by decide +kernel
theorem own_dprog_91_3_45 : decode prog_91_method_3_code 45 = .ok (.iaload, 1) := by decide +kernel
theorem own_dprog_91_3_46 : decode prog_91_method_3_code 46 = .ok (.invokestatic 26, 3) := by decide +kernel
theorem own_dprog_91_3_49 : decode prog_91_method_3_code 49 = .ok (.iastore, 1) := by decide +kernel
theorem own_dprog_91_3_50 : decode prog_91_method_3_code 50 = .ok (.iload_n 3, 1) := by decide +kernel
theorem own_dprog_91_3_51 : decode prog_91_method_3_code 51 = .ok (.iconst 2, 1) := by decide +kernel
theorem own_dprog_91_3_52 : decode prog_91_method_3_code 52 = .ok (.idiv, 1) := by decide +kernel
theorem own_dprog_91_3_53 : decode prog_91_method_3_code 53 = .ok (.istore_n 3, 1) := by decide +kernel
theorem own_dprog_91_3_54 : decode prog_91_method_3_code 54 = .ok (.goto (-36), 3) := by decide +kernel
theorem own_dprog_91_3_57 : decode prog_91_method_3_code 57 = .ok (.return_, 1) := by decide +kernel
theorem own_pd1 : parseMethodDescriptor "(II)I" = some ⟨[.int, .int], some .int⟩ := by decide +kernel
set_option maxRecDepth 65536 in
set_option maxHeartbeats 40000000 in
theorem own_sturn {p : Program} {l : Launch} {e : Env} {s : State} {m : MethodId} {args : Array Value} {below : List Frame} {meth : Method} {c : Code} {T0 : State} {locs : List Loc} {Z : State} {a0 : Array Value} {h0 : Heap} (a1 b : Addr) (p1 p2 j x y : Int32) (cl : Cell) (n0 : Nat)
    (X0 : Stand p l e ({ frames := 1, cells := 0, slots := 0, locals := 15 } : Room) s m args below meth c T0 locs 0 0) (hx : p.tables.exec = Jvm.exec) (hZ : Z.Warmed39 s.vm) (hw : ∀ d ∈ tables_1, d.before a0 Z = true) (hby : c.code = prog_91_method_3_code) (hml : c.maxLocals = 4) (hown : s.vm.findClass "com/example/unknot/unknot/sp/MinTree" = some m.cls) (e0 : T0.heap = h0) (N0 : Fr n0 locs) (Z0 : n0 ≤ h0.size) (g : n0 ≤ b) (hj : ¬ j < (1 : Int32)) (F2 : Fld Z h0 a1 "com/example/unknot/unknot/sp/MinTree" "least" "[I" (.ref b)) (Ar : Arr Z h0 b cl .int) (hin : ¬ (j < 0 ∨ cl.slots.size ≤ j.toNatClampNeg)) (hin1 : ¬ (((2 : Int32) * j) < 0 ∨ cl.slots.size ≤ ((2 : Int32) * j).toNatClampNeg)) (hat1 : cl.slots[((2 : Int32) * j).toNatClampNeg]? = some (.int x)) (hin2 : ¬ ((((2 : Int32) * j) + (1 : Int32)) < 0 ∨ cl.slots.size ≤ (((2 : Int32) * j) + (1 : Int32)).toNatClampNeg)) (hat2 : cl.slots[(((2 : Int32) * j) + (1 : Int32)).toNatClampNeg]? = some (.int y)) :
    ∃ (T' : State) (h' : Heap) (locs' : List Loc), Stand p l e ({ frames := 1, cells := 0, slots := 0, locals := 15 } : Room) s m args below meth c T' locs' 0 0 ∧ T'.heap = h' ∧ Fr n0 locs' ∧ Wr h0 h' b j.toNatClampNeg (.int (own_min x y)) ∧ ∀ target, Steps p.tables e below (T'.setTop (mkF m 18 #[.val (.ref a1), .val (.int p1), .val (.int p2), .val (.int (j / (2 : Int32)))] [])) target → Steps p.tables e below (T0.setTop (mkF m 18 #[.val (.ref a1), .val (.int p1), .val (.int p2), .val (.int j)] [])) target := by
  obtain ⟨T1, X1, e1, st1⟩ := getF X0 hx hZ hown (host := "") (Or.inl (hw _ (List.mem_of_getElem? (i := 12) rfl))) Via.refl e0 F2 (g := (mkF m 24 #[.val (.ref a1), .val (.int p1), .val (.int p2), .val (.int j)] [(.ref a1)])) rfl rfl (hb hby own_dprog_91_3_24)
  obtain ⟨T2, X2, e2, st2⟩ := getF X1 hx hZ hown (host := "") (Or.inl (hw _ (List.mem_of_getElem? (i := 12) rfl))) Via.refl e1 F2 (g := (mkF m 29 #[.val (.ref a1), .val (.int p1), .val (.int p2), .val (.int j)] [(.ref a1), (.int j), (.ref b)])) rfl rfl (hb hby own_dprog_91_3_29)
  obtain ⟨T3, X3, e3, st3⟩ := getF X2 hx hZ hown (host := "") (Or.inl (hw _ (List.mem_of_getElem? (i := 12) rfl))) Via.refl e2 F2 (g := (mkF m 37 #[.val (.ref a1), .val (.int p1), .val (.int p2), .val (.int j)] [(.ref a1), (.int x), (.int j), (.ref b)])) rfl rfl (hb hby own_dprog_91_3_37)
  obtain ⟨_, _, ⟨T4, L4, k4, n4⟩, -, X4, ⟨Lc4, hQ4, l4, y4, z4⟩, st4⟩ := Jvm.LawKit.callS X3 hx (y := (⟨"java/lang/Math", "min", "(II)I"⟩ : MethodName)) hown (mvT hZ (hw _ (List.mem_of_getElem? (i := 24) rfl))) (mvT hZ (hw _ (List.mem_of_getElem? (i := 25) rfl))) (mvT hZ (hw _ (List.mem_of_getElem? (i := 26) rfl))) (mvT hZ (hw _ (List.mem_of_getElem? (i := 27) rfl))) (by decide) (backOf (W := 2) (rm_min l Z a0 hw [] x y h0 n0 Z0) hZ (hw _ (List.mem_of_getElem? (i := 27) rfl)) (hw _ (List.mem_of_getElem? (i := 26) rfl)) (by decide) (by decide)) (g := (mkF m 46 #[.val (.ref a1), .val (.int p1), .val (.int p2), .val (.int j)] [(.int y), (.int x), (.int j), (.ref b)])) rfl (by rw [hml]; rfl) (argsL := [(.int x), (.int y)]) (rest := [(.int j), (.ref b)]) (lenOf own_pd1 rfl) rfl (by show 2 * 0 + _ ≤ _; exact Nat.le_of_eq rfl) (hb hby own_dprog_91_3_46) (fun _ _ => ⟨rfl, e3, (by decide : 0 + 0 ≤ _), (by decide : 0 + 0 ≤ _)⟩)
  dsimp only [Pt.U, Pt.locs, Pt.cells, Pt.slots] at X4 l4 y4 z4 st4 hQ4
  rw [l4, y4, z4] at X4
  obtain ⟨rfl, Nq4, e4⟩ := hQ4
  have N4 := Fr.app N0 Nq4
  obtain ⟨T5, h5, X5, e5, W5, st5⟩ := stI X4 hx hZ e4 Ar (j := j) hin (g := (mkF m 49 #[.val (.ref a1), .val (.int p1), .val (.int p2), .val (.int j)] [(.int (own_min x y)), (.int j), (.ref b)])) rfl rfl (hb hby own_dprog_91_3_49)
  have N5 := Fr.snoc X5 N4 g
  have sz5 : n0 ≤ h5.size := Nat.le_trans Z0 (Keep.of_wr W5).1
  refine ⟨T5, h5, _, X5, e5, N5, W5, fun target kt => ?_⟩
  show Steps p.tables e below (T0.setTop (mkF m 18 #[.val (.ref a1), .val (.int p1), .val (.int p2), .val (.int j)] [])) _
  refine XS.iloadN X0.here hx rfl (hb hby own_dprog_91_3_18) rfl ?_
  show Steps p.tables e below (T0.setTop (mkF m 19 #[.val (.ref a1), .val (.int p1), .val (.int p2), .val (.int j)] [(.int j)])) _
  refine XS.iconst X0.here hx rfl (hb hby own_dprog_91_3_19) ?_
  show Steps p.tables e below (T0.setTop (mkF m 20 #[.val (.ref a1), .val (.int p1), .val (.int p2), .val (.int j)] [(.int (1 : Int32)), (.int j)])) _
  refine XS.icmpNo X0.here hx rfl (hb hby own_dprog_91_3_20) rfl (flt hj).1 ?_
  show Steps p.tables e below (T0.setTop (mkF m 23 #[.val (.ref a1), .val (.int p1), .val (.int p2), .val (.int j)] [])) _
  refine XS.aloadN X0.here hx rfl (hb hby own_dprog_91_3_23) rfl rfl ?_
  show Steps p.tables e below (T0.setTop (mkF m 24 #[.val (.ref a1), .val (.int p1), .val (.int p2), .val (.int j)] [(.ref a1)])) _
  refine st1 _ ?_
  show Steps p.tables e below (T1.setTop (mkF m 27 #[.val (.ref a1), .val (.int p1), .val (.int p2), .val (.int j)] [(.ref b)])) _
  refine XS.iloadN X1.here hx rfl (hb hby own_dprog_91_3_27) rfl ?_
  show Steps p.tables e below (T1.setTop (mkF m 28 #[.val (.ref a1), .val (.int p1), .val (.int p2), .val (.int j)] [(.int j), (.ref b)])) _
  refine XS.aloadN X1.here hx rfl (hb hby own_dprog_91_3_28) rfl rfl ?_
  show Steps p.tables e below (T1.setTop (mkF m 29 #[.val (.ref a1), .val (.int p1), .val (.int p2), .val (.int j)] [(.ref a1), (.int j), (.ref b)])) _
  refine st2 _ ?_
  show Steps p.tables e below (T2.setTop (mkF m 32 #[.val (.ref a1), .val (.int p1), .val (.int p2), .val (.int j)] [(.ref b), (.int j), (.ref b)])) _
  refine XS.iconst X2.here hx rfl (hb hby own_dprog_91_3_32) ?_
  show Steps p.tables e below (T2.setTop (mkF m 33 #[.val (.ref a1), .val (.int p1), .val (.int p2), .val (.int j)] [(.int (2 : Int32)), (.ref b), (.int j), (.ref b)])) _
  refine XS.iloadN X2.here hx rfl (hb hby own_dprog_91_3_33) rfl ?_
  show Steps p.tables e below (T2.setTop (mkF m 34 #[.val (.ref a1), .val (.int p1), .val (.int p2), .val (.int j)] [(.int j), (.int (2 : Int32)), (.ref b), (.int j), (.ref b)])) _
  refine XS.imul X2.here hx rfl (hb hby own_dprog_91_3_34) rfl ?_
  show Steps p.tables e below (T2.setTop (mkF m 35 #[.val (.ref a1), .val (.int p1), .val (.int p2), .val (.int j)] [(.int ((2 : Int32) * j)), (.ref b), (.int j), (.ref b)])) _
  refine X2.iaload hx (j := ((2 : Int32) * j)) (v := (.int x)) (by rw [e2]; exact Ar.1) (State.isArrayOf_alike hZ.alike Ar.2.1) Ar.2.2 hin1 hat1 (g := (mkF m 35 #[.val (.ref a1), .val (.int p1), .val (.int p2), .val (.int j)] [(.int ((2 : Int32) * j)), (.ref b), (.int j), (.ref b)])) rfl rfl (hb hby own_dprog_91_3_35) _ ?_
  show Steps p.tables e below (T2.setTop (mkF m 36 #[.val (.ref a1), .val (.int p1), .val (.int p2), .val (.int j)] [(.int x), (.int j), (.ref b)])) _
  refine XS.aloadN X2.here hx rfl (hb hby own_dprog_91_3_36) rfl rfl ?_
  show Steps p.tables e below (T2.setTop (mkF m 37 #[.val (.ref a1), .val (.int p1), .val (.int p2), .val (.int j)] [(.ref a1), (.int x), (.int j), (.ref b)])) _
  refine st3 _ ?_
  show Steps p.tables e below (T3.setTop (mkF m 40 #[.val (.ref a1), .val (.int p1), .val (.int p2), .val (.int j)] [(.ref b), (.int x), (.int j), (.ref b)])) _
  refine XS.iconst X3.here hx rfl (hb hby own_dprog_91_3_40) ?_
  show Steps p.tables e below (T3.setTop (mkF m 41 #[.val (.ref a1), .val (.int p1), .val (.int p2), .val (.int j)] [(.int (2 : Int32)), (.ref b), (.int x), (.int j), (.ref b)])) _
  refine XS.iloadN X3.here hx rfl (hb hby own_dprog_91_3_41) rfl ?_
  show Steps p.tables e below (T3.setTop (mkF m 42 #[.val (.ref a1), .val (.int p1), .val (.int p2), .val (.int j)] [(.int j), (.int (2 : Int32)), (.ref b), (.int x), (.int j), (.ref b)])) _
  refine XS.imul X3.here hx rfl (hb hby own_dprog_91_3_42) rfl ?_
  show Steps p.tables e below (T3.setTop (mkF m 43 #[.val (.ref a1), .val (.int p1), .val (.int p2), .val (.int j)] [(.int ((2 : Int32) * j)), (.ref b), (.int x), (.int j), (.ref b)])) _
  refine XS.iconst X3.here hx rfl (hb hby own_dprog_91_3_43) ?_
  show Steps p.tables e below (T3.setTop (mkF m 44 #[.val (.ref a1), .val (.int p1), .val (.int p2), .val (.int j)] [(.int (1 : Int32)), (.int ((2 : Int32) * j)), (.ref b), (.int x), (.int j), (.ref b)])) _
  refine XS.iadd X3.here hx rfl (hb hby own_dprog_91_3_44) rfl ?_
  show Steps p.tables e below (T3.setTop (mkF m 45 #[.val (.ref a1), .val (.int p1), .val (.int p2), .val (.int j)] [(.int (((2 : Int32) * j) + (1 : Int32))), (.ref b), (.int x), (.int j), (.ref b)])) _
  refine X3.iaload hx (j := (((2 : Int32) * j) + (1 : Int32))) (v := (.int y)) (by rw [e3]; exact Ar.1) (State.isArrayOf_alike hZ.alike Ar.2.1) Ar.2.2 hin2 hat2 (g := (mkF m 45 #[.val (.ref a1), .val (.int p1), .val (.int p2), .val (.int j)] [(.int (((2 : Int32) * j) + (1 : Int32))), (.ref b), (.int x), (.int j), (.ref b)])) rfl rfl (hb hby own_dprog_91_3_45) _ ?_
  show Steps p.tables e below (T3.setTop (mkF m 46 #[.val (.ref a1), .val (.int p1), .val (.int p2), .val (.int j)] [(.int y), (.int x), (.int j), (.ref b)])) _
  refine st4 _ ?_
  show Steps p.tables e below (T4.setTop (mkF m 49 #[.val (.ref a1), .val (.int p1), .val (.int p2), .val (.int j)] [(.int (own_min x y)), (.int j), (.ref b)])) _
  refine st5 _ ?_
  show Steps p.tables e below (T5.setTop (mkF m 50 #[.val (.ref a1), .val (.int p1), .val (.int p2), .val (.int j)] [])) _
  refine XS.iloadN X5.here hx rfl (hb hby own_dprog_91_3_50) rfl ?_
  show Steps p.tables e below (T5.setTop (mkF m 51 #[.val (.ref a1), .val (.int p1), .val (.int p2), .val (.int j)] [(.int j)])) _
  refine XS.iconst X5.here hx rfl (hb hby own_dprog_91_3_51) ?_
  show Steps p.tables e below (T5.setTop (mkF m 52 #[.val (.ref a1), .val (.int p1), .val (.int p2), .val (.int j)] [(.int (2 : Int32)), (.int j)])) _
  refine XS.idiv X5.here hx rfl (hb hby own_dprog_91_3_52) rfl (by decide) ?_
  show Steps p.tables e below (T5.setTop (mkF m 53 #[.val (.ref a1), .val (.int p1), .val (.int p2), .val (.int j)] [(.int (j / (2 : Int32)))])) _
  refine XS.istoreN X5.here hx rfl (hb hby own_dprog_91_3_53) rfl (l' := #[.val (.ref a1), .val (.int p1), .val (.int p2), .val (.int (j / (2 : Int32)))]) rfl ?_
  show Steps p.tables e below (T5.setTop (mkF m 54 #[.val (.ref a1), .val (.int p1), .val (.int p2), .val (.int (j / (2 : Int32)))] [])) _
  refine XS.goto X5.here hx rfl (pc0 := 54) (pc' := 18) rfl (hb hby own_dprog_91_3_54) (by decide) (by decide) ?_
  exact kt
set_option maxRecDepth 65536 in
set_option maxHeartbeats 40000000 in
theorem own_sleave {p : Program} {l : Launch} {e : Env} {R : Room} {s : State} {m : MethodId} {args : Array Value} {below : List Frame} {meth : Method} {c : Code} {T0 : State} {locs : List Loc} {cells slots : Nat} {Z : State} {a0 : Array Value} {h0 : Heap} (a1 : Addr) (p1 p2 j : Int32)
    (X0 : Stand p l e R s m args below meth c T0 locs cells slots) (hx : p.tables.exec = Jvm.exec) (hZ : Z.Warmed39 s.vm) (hw : ∀ d ∈ tables_1, d.before a0 Z = true) (hby : c.code = prog_91_method_3_code) (hml : c.maxLocals = 4) (hown : s.vm.findClass "com/example/unknot/unknot/sp/MinTree" = some m.cls) (e0 : T0.heap = h0) (hj : j < (1 : Int32)) :
     ∀ target, Steps p.tables e below (T0.setTop (mkF m 57 #[.val (.ref a1), .val (.int p1), .val (.int p2), .val (.int j)] [])) target → Steps p.tables e below (T0.setTop (mkF m 18 #[.val (.ref a1), .val (.int p1), .val (.int p2), .val (.int j)] [])) target := by
  intro target kt
  show Steps p.tables e below (T0.setTop (mkF m 18 #[.val (.ref a1), .val (.int p1), .val (.int p2), .val (.int j)] [])) _
  refine XS.iloadN X0.here hx rfl (hb hby own_dprog_91_3_18) rfl ?_
  show Steps p.tables e below (T0.setTop (mkF m 19 #[.val (.ref a1), .val (.int p1), .val (.int p2), .val (.int j)] [(.int j)])) _
  refine XS.iconst X0.here hx rfl (hb hby own_dprog_91_3_19) ?_
  show Steps p.tables e below (T0.setTop (mkF m 20 #[.val (.ref a1), .val (.int p1), .val (.int p2), .val (.int j)] [(.int (1 : Int32)), (.int j)])) _
  refine XS.icmpYes X0.here hx rfl (pc0 := 20) (pc' := 57) rfl (hb hby own_dprog_91_3_20) rfl (tlt hj).1 (by decide) (by decide) ?_
  exact kt
theorem own_sloop {p : Program} {l : Launch} {e : Env} {s : State} {m : MethodId} {args : Array Value} {below : List Frame} {meth : Method} {c : Code} {Z : State} {a0 : Array Value} (a1 b : Addr) (kc : ClassId) (p1 p2 : Int32) (lv n0 : Nat) (hl : lv ≤ 8) (g : n0 ≤ b) (hx : p.tables.exec = Jvm.exec) (hZ : Z.Warmed39 s.vm) (hw : ∀ d ∈ tables_1, d.before a0 Z = true) (hby : c.code = prog_91_method_3_code) (hml : c.maxLocals = 4) (hown : s.vm.findClass "com/example/unknot/unknot/sp/MinTree" = some m.cls) :
    ∀ (k j : Nat) (vs : List Int32) (T0 : State) (locs : List Loc) (h0 : Heap), Stand p l e ({ frames := 1, cells := 0, slots := 0, locals := 15 } : Room) s m args below meth c T0 locs 0 0 → T0.heap = h0 → Fr n0 locs → n0 ≤ h0.size → j < 2 ^ k → j < lv ∨ j = 0 → own_Tree Z h0 a1 b kc lv vs →
    ∃ (T' : State) (h' : Heap) (locs' : List Loc) (j' : Int32), Stand p l e ({ frames := 1, cells := 0, slots := 0, locals := 15 } : Room) s m args below meth c T' locs' 0 0 ∧ T'.heap = h' ∧ Fr n0 locs' ∧ Keep h0 h' [b] ∧ own_Tree Z h' a1 b kc lv (own_up k vs j) ∧
      ∀ target, Steps p.tables e below (T'.setTop (mkF m 57 #[.val (.ref a1), .val (.int p1), .val (.int p2), .val (.int j')] [])) target → Steps p.tables e below (T0.setTop (mkF m 18 #[.val (.ref a1), .val (.int p1), .val (.int p2), .val (.int (Int32.ofNat j))] [])) target := by
  intro k
  induction k with
  | zero =>
    intro j vs T0 locs h0 X0 e0 N0 Z0 hj hjl Tr
    obtain rfl : j = 0 := by omega
    exact ⟨T0, h0, locs, _, X0, e0, N0, Keep.refl _ _, Tr, own_sleave a1 p1 p2 _ X0 hx hZ hw hby hml hown e0 (by decide)⟩
  | succ k ih =>
    intro j vs T0 locs h0 X0 e0 N0 Z0 hj hjl Tr
    by_cases hj1 : j < 1
    · obtain rfl : j = 0 := by omega
      exact ⟨T0, h0, locs, _, X0, e0, N0, Keep.refl _ _, Tr, own_sleave a1 p1 p2 _ X0 hx hZ hw hby hml hown e0 (by decide)⟩
    · have hjlv : j < lv := by omega
      have q := own_one17 ⟨j, by omega⟩
      have q2 := own_two j (by omega)
      obtain ⟨cl, Ar, ck, S, Ng, H, Ft, rd⟩ := own_read Tr hl
      have r1 := rd (2 * j) (by omega)
      have r2 := rd (2 * j + 1) (by omega)
      rw [← q2.1] at r1
      rw [← q2.2] at r2
      obtain ⟨T1, h1, locs1, Xe1, e1, N1, W1, st1⟩ := own_sturn a1 b p1 p2 (Int32.ofNat j) (vs.getD (2 * j) 0) (vs.getD (2 * j + 1) 0) cl n0 X0 hx hZ hw hby hml hown e0 N0 Z0 g (fun z => hj1 (q.2.2.2.2.2.2.1.mp z)) Tr.2.2.1 Ar (rd j (by omega)).1 r1.1 r1.2 r2.1 r2.2
      have Tr1 := own_store Tr hl j (by omega) _ W1
      obtain ⟨T2, h2, locs2, j2, X2, e2, N2, K2, Tr2, st2⟩ := ih (j / 2) _ T1 locs1 h1 Xe1 e1 N1 (Nat.le_trans Z0 (Keep.of_wr W1).1) (by omega) (by omega) Tr1
      refine ⟨T2, h2, locs2, j2, X2, e2, N2, (Keep.of_wr W1).trans K2 (fun x hx => Or.inl hx), ?_, fun target kt => st1 target ?_⟩
      · unfold own_up; rw [if_neg hj1]; exact Tr2
      · rw [q.2.2.1]; exact st2 target kt
theorem own_ef_set (m : MethodId) (x0 : Addr) (x1 : Int32) (x2 : Int32) : entryFrame m #[(.ref x0), (.int x1), (.int x2)] 4 = mkF m 0 #[.val (.ref x0), .val (.int x1), .val (.int x2), .unset] [] := by first | (simp [entryFrame, mkF, argsToLocals, Value.category]; done) | rfl
def Q_set (Z : State) (a1 : Addr) (p1 : Int32) (p2 : Int32) (b : Addr) (kc : ClassId) (lv : Nat) (i : Nat) (vs : List Int32) (h0 : Heap) (n0 : Nat) (v : Option Value) (h : Heap) (L : List Loc) : Prop := v = none ∧ Fr n0 L ∧ Keep h0 h [b] ∧ own_Tree Z h a1 b kc lv (own_set lv vs i p2)
set_option maxRecDepth 65536 in
set_option maxHeartbeats 40000000 in
theorem rm_set (l : Launch) (Z : State) (a0 : Array Value) (hw : ∀ d ∈ tables_1, d.before a0 Z = true) (ws : List Jvm.Cond) (a1 : Addr) (p1 : Int32) (p2 : Int32) (b : Addr) (kc : ClassId) (lv : Nat) (i : Nat) (vs : List Int32) (h0 : Heap) (n0 : Nat) (Z0 : n0 ≤ h0.size) (hp : p1 = Int32.ofNat i) (hl : lv ≤ 8) (hi : i < lv) (g : n0 ≤ b) (Tr : own_Tree Z h0 a1 b kc lv vs) :
    MetFree l (⟨"com/example/unknot/unknot/sp/MinTree", "set", "(II)V"⟩ : MethodName) (head1 (Jvm.Cond.code (⟨"com/example/unknot/unknot/sp/MinTree", "set", "(II)V"⟩ : MethodName) prog_91_method_3_code 4 none :: ws) ({ frames := 1, cells := 0, slots := 0, locals := 15 } : Room)) (fun a U => a = #[(.ref a1), (.int p1), (.int p2)] ∧ Z.Warmed39 U.vm ∧ U.heap = h0) (fun _ _ _ _ _ => True) (fun _ U o U' => ∃ v L, o = .returned v ∧ Q_set Z a1 p1 p2 b kc lv i vs h0 n0 v U'.heap L ∧ FrameEnd U o U' L ({ frames := 1, cells := 0, slots := 0, locals := 15 } : Room).cells ({ frames := 1, cells := 0, slots := 0, locals := 15 } : Room).slots) := by
  refine MetFree.of_bodySF (plainFor_of_name own_pn_com_example_unknot_unknot_sp_MinTree) hisR ?_
  intro p e s m args below meth c s₁ Bd hml0 hP hK
  obtain ⟨rfl, hZ, hh⟩ := hP
  have hx := Bd.exec
  have hby := Bd.bytes
  have hml : c.maxLocals = 4 := hml0
  have hown : s.vm.findClass "com/example/unknot/unknot/sp/MinTree" = some m.cls := findClass_of_methodNamed Bd.named
  have hnm := (name_of_methodNamed Bd.named Bd.method).1
  have X0 : Stand p l e ({ frames := 1, cells := 0, slots := 0, locals := 15 } : Room) s m #[(.ref a1), (.int p1), (.int p2)] below meth c s₁ [] 0 0 := Stand.of_body Bd
  have e0 : s₁.heap = h0 := by rw [← hh, Bd.state]; rfl
  have N0 := Fr.nil n0
  have pre0 : ∀ t, Steps p.tables e below (s₁.setTop (mkF m 0 #[.val (.ref a1), .val (.int p1), .val (.int p2), .unset] [])) t → Steps p.tables e below (s₁.setTop (entryFrame m #[(.ref a1), (.int p1), (.int p2)] 4)) t := fun t k => castTop (own_ef_set m a1 p1 p2) k
  have hadd : Int32.ofNat lv + p1 = Int32.ofNat (lv + i) := by rw [hp]; exact own_add17 ⟨lv, by omega⟩ ⟨i, by omega⟩
  have hhalf : Int32.ofNat (lv + i) / (2 : Int32) = Int32.ofNat ((lv + i) / 2) := (own_one17 ⟨lv + i, by omega⟩).2.2.1
  obtain ⟨cl, Ar, ck, S, Ng, Hs, Ft, rd⟩ := own_read Tr hl
  obtain ⟨T1, X1, e1, st1⟩ := getF X0 hx hZ hown (host := "") (Or.inl (hw _ (List.mem_of_getElem? (i := 9) rfl))) Via.refl e0 Tr.2.1 (g := (mkF m 1 #[.val (.ref a1), .val (.int p1), .val (.int p2), .unset] [(.ref a1)])) rfl rfl (hb hby own_dprog_91_3_1)
  obtain ⟨T2, X2, e2, st2⟩ := getF X1 hx hZ hown (host := "") (Or.inl (hw _ (List.mem_of_getElem? (i := 12) rfl))) Via.refl e1 Tr.2.2.1 (g := (mkF m 8 #[.val (.ref a1), .val (.int p1), .val (.int p2), .val (.int (Int32.ofNat (lv + i)))] [(.ref a1)])) rfl rfl (hb hby own_dprog_91_3_8)
  obtain ⟨T3, h3, X3, e3, W3, st3⟩ := stI X2 hx hZ e2 Ar (j := (Int32.ofNat (lv + i))) (rd (lv + i) (by omega)).1 (g := (mkF m 13 #[.val (.ref a1), .val (.int p1), .val (.int p2), .val (.int (Int32.ofNat (lv + i)))] [(.int p2), (.int (Int32.ofNat (lv + i))), (.ref b)])) rfl rfl (hb hby own_dprog_91_3_13)
  have N3 := Fr.snoc X3 N0 g
  have sz3 : n0 ≤ h3.size := Nat.le_trans Z0 (Keep.of_wr W3).1
  have Tr1 := own_store Tr hl (lv + i) (by omega) _ W3
  have K1 : Keep h0 h3 [b] := (Keep.refl h0 [b]).wr W3 (Or.inl (List.mem_of_getElem? (i := 0) rfl))
  obtain ⟨T9, h9, locs9, j9, X9, e9, N9, K9, Tr9, st9⟩ := own_sloop a1 b kc p1 p2 lv n0 hl g hx hZ hw hby hml hown 4 ((lv + i) / 2) _ T3 _ _ X3 e3 N3 sz3 (by omega) (by omega) Tr1
  obtain ⟨fs, hr, hrun, hended, hW, hsame⟩ := X9.leave (v := none) (fun _ => rfl)
  refine ⟨_, _, pre0 _ ?_, hrun, hended, _, _, rfl, ?_, ⟨_, rfl⟩, hW, hsame.mono (by decide) (by decide)⟩
  · show Steps p.tables e below (s₁.setTop (mkF m 0 #[.val (.ref a1), .val (.int p1), .val (.int p2), .unset] [])) _
    refine XS.aloadN X0.here hx rfl (hb hby own_dprog_91_3_0) rfl rfl ?_
    show Steps p.tables e below (s₁.setTop (mkF m 1 #[.val (.ref a1), .val (.int p1), .val (.int p2), .unset] [(.ref a1)])) _
    refine st1 _ ?_
    show Steps p.tables e below (T1.setTop (mkF m 4 #[.val (.ref a1), .val (.int p1), .val (.int p2), .unset] [(.int (Int32.ofNat lv))])) _
    refine XS.iloadN X1.here hx rfl (hb hby own_dprog_91_3_4) rfl ?_
    show Steps p.tables e below (T1.setTop (mkF m 5 #[.val (.ref a1), .val (.int p1), .val (.int p2), .unset] [(.int p1), (.int (Int32.ofNat lv))])) _
    refine XS.iadd X1.here hx rfl (hb hby own_dprog_91_3_5) rfl ?_
    show Steps p.tables e below (T1.setTop (mkF m 6 #[.val (.ref a1), .val (.int p1), .val (.int p2), .unset] [(.int ((Int32.ofNat lv) + p1))])) _
    rw [hadd]
    show Steps p.tables e below (T1.setTop (mkF m 6 #[.val (.ref a1), .val (.int p1), .val (.int p2), .unset] [(.int (Int32.ofNat (lv + i)))])) _
    refine XS.istoreN X1.here hx rfl (hb hby own_dprog_91_3_6) rfl (l' := #[.val (.ref a1), .val (.int p1), .val (.int p2), .val (.int (Int32.ofNat (lv + i)))]) rfl ?_
    show Steps p.tables e below (T1.setTop (mkF m 7 #[.val (.ref a1), .val (.int p1), .val (.int p2), .val (.int (Int32.ofNat (lv + i)))] [])) _
    refine XS.aloadN X1.here hx rfl (hb hby own_dprog_91_3_7) rfl rfl ?_
    show Steps p.tables e below (T1.setTop (mkF m 8 #[.val (.ref a1), .val (.int p1), .val (.int p2), .val (.int (Int32.ofNat (lv + i)))] [(.ref a1)])) _
    refine st2 _ ?_
    show Steps p.tables e below (T2.setTop (mkF m 11 #[.val (.ref a1), .val (.int p1), .val (.int p2), .val (.int (Int32.ofNat (lv + i)))] [(.ref b)])) _
    refine XS.iloadN X2.here hx rfl (hb hby own_dprog_91_3_11) rfl ?_
    show Steps p.tables e below (T2.setTop (mkF m 12 #[.val (.ref a1), .val (.int p1), .val (.int p2), .val (.int (Int32.ofNat (lv + i)))] [(.int (Int32.ofNat (lv + i))), (.ref b)])) _
    refine XS.iloadN X2.here hx rfl (hb hby own_dprog_91_3_12) rfl ?_
    show Steps p.tables e below (T2.setTop (mkF m 13 #[.val (.ref a1), .val (.int p1), .val (.int p2), .val (.int (Int32.ofNat (lv + i)))] [(.int p2), (.int (Int32.ofNat (lv + i))), (.ref b)])) _
    refine st3 _ ?_
    show Steps p.tables e below (T3.setTop (mkF m 14 #[.val (.ref a1), .val (.int p1), .val (.int p2), .val (.int (Int32.ofNat (lv + i)))] [])) _
    refine XS.iloadN X3.here hx rfl (hb hby own_dprog_91_3_14) rfl ?_
    show Steps p.tables e below (T3.setTop (mkF m 15 #[.val (.ref a1), .val (.int p1), .val (.int p2), .val (.int (Int32.ofNat (lv + i)))] [(.int (Int32.ofNat (lv + i)))])) _
    refine XS.iconst X3.here hx rfl (hb hby own_dprog_91_3_15) ?_
    show Steps p.tables e below (T3.setTop (mkF m 16 #[.val (.ref a1), .val (.int p1), .val (.int p2), .val (.int (Int32.ofNat (lv + i)))] [(.int (2 : Int32)), (.int (Int32.ofNat (lv + i)))])) _
    refine XS.idiv X3.here hx rfl (hb hby own_dprog_91_3_16) rfl (by decide) ?_
    show Steps p.tables e below (T3.setTop (mkF m 17 #[.val (.ref a1), .val (.int p1), .val (.int p2), .val (.int (Int32.ofNat (lv + i)))] [(.int ((Int32.ofNat (lv + i)) / (2 : Int32)))])) _
    rw [hhalf]
    show Steps p.tables e below (T3.setTop (mkF m 17 #[.val (.ref a1), .val (.int p1), .val (.int p2), .val (.int (Int32.ofNat (lv + i)))] [(.int (Int32.ofNat ((lv + i) / 2)))])) _
    refine XS.istoreN X3.here hx rfl (hb hby own_dprog_91_3_17) rfl (l' := #[.val (.ref a1), .val (.int p1), .val (.int p2), .val (.int (Int32.ofNat ((lv + i) / 2)))]) rfl ?_
    show Steps p.tables e below (T3.setTop (mkF m 18 #[.val (.ref a1), .val (.int p1), .val (.int p2), .val (.int (Int32.ofNat ((lv + i) / 2)))] [])) _
    refine st9 _ ?_
    show Steps p.tables e below (T9.setTop (mkF m 57 #[.val (.ref a1), .val (.int p1), .val (.int p2), .val (.int j9)] [])) _
    exact X9.returnOut hx Bd.returns (hb hby own_dprog_91_3_57) hr
  · show Q_set Z a1 p1 p2 b kc lv i vs h0 n0 _ T9.heap _
    rw [e9]
    exact ⟨rfl, N9, K1.trans K9 (fun x hx => Or.inl hx), Tr9⟩
theorem own_dprog_91_5_0 : decode prog_91_method_5_code 0 = .ok (.iload_n 1, 1) := by decide +kernel
theorem own_dprog_91_5_1 : decode prog_91_method_5_code 1 = .ok (.iload_n 2, 1) := by decide +kernel
theorem own_dprog_91_5_2 : decode prog_91_method_5_code 2 = .ok (.if_icmp .lt 5, 3) := by decide +kernel
theorem own_dprog_91_5_5 : decode prog_91_method_5_code 5 = .ok (.iconst (-1), 1) := by decide +kernel
theorem own_dprog_91_5_6 : decode prog_91_method_5_code 6 = .ok (.ireturn, 1) := by decide +kernel
theorem own_dprog_91_5_7 : decode prog_91_method_5_code 7 = .ok (.aload_n 0, 1) := by decide +kernel
theorem own_dprog_91_5_8 : decode prog_91_method_5_code 8 = .ok (.getfield 9, 3) := by decide +kernel
theorem own_dprog_91_5_11 : decode prog_91_method_5_code 11 = .ok (.iload_n 1, 1) := by decide +kernel
theorem own_dprog_91_5_12 : decode prog_91_method_5_code 12 = .ok (.iadd, 1) := by decide +kernel
theorem own_dprog_91_5_13 : decode prog_91_method_5_code 13 = .ok (.istore 4, 2) := by decide +kernel
theorem own_dprog_91_5_15 : decode prog_91_method_5_code 15 = .ok (.iload 4, 2) := by decide +kernel
theorem own_dprog_91_5_17 : decode prog_91_method_5_code 17 = .ok (.ifCond .eq 49, 3) := by decide +kernel
theorem own_dprog_91_5_20 : decode prog_91_method_5_code 20 = .ok (.aload_n 0, 1) := by decide +kernel
theorem own_dprog_91_5_21 : decode prog_91_method_5_code 21 = .ok (.getfield 15, 3) := by decide +kernel
theorem own_dprog_91_5_24 : decode prog_91_method_5_code 24 = .ok (.iload 4, 2) := by decide +kernel
theorem own_dprog_91_5_26 : decode prog_91_method_5_code 26 = .ok (.iaload, 1) := by decide +kernel
theorem own_dprog_91_5_27 : decode prog_91_method_5_code 27 = .ok (.iload_n 3, 1) := by decide +kernel
theorem own_dprog_91_5_28 : decode prog_91_method_5_code 28 = .ok (.if_icmp .le 38, 3) := by decide +kernel
theorem own_dprog_91_5_31 : decode prog_91_method_5_code 31 = .ok (.iload 4, 2) := by decide +kernel
theorem own_dprog_91_5_33 : decode prog_91_method_5_code 33 = .ok (.iconst 2, 1) := by decide +kernel
theorem own_dprog_91_5_34 : decode prog_91_method_5_code 34 = .ok (.irem, 1) := by decide +kernel
theorem own_dprog_91_5_35 : decode prog_91_method_5_code 35 = .ok (.iconst 1, 1) := by decide +kernel
theorem own_dprog_91_5_36 : decode prog_91_method_5_code 36 = .ok (.if_icmp .ne 12, 3) := by decide +kernel
theorem own_dprog_91_5_39 : decode prog_91_method_5_code 39 = .ok (.iload 4, 2) := by decide +kernel
theorem own_dprog_91_5_41 : decode prog_91_method_5_code 41 = .ok (.iconst 2, 1) := by decide +kernel
theorem own_dprog_91_5_42 : decode prog_91_method_5_code 42 = .ok (.idiv, 1) := by decide +kernel
theorem own_dprog_91_5_43 : decode prog_91_method_5_code 43 = .ok (.istore 4, 2) := by decide +kernel
theorem own_dprog_91_5_45 : decode prog_91_method_5_code 45 = .ok (.goto (-14), 3) := by decide +kernel
theorem own_dprog_91_5_48 : decode prog_91_method_5_code 48 = .ok (.iload 4, 2) := by decide +kernel
theorem own_dprog_91_5_50 : decode prog_91_method_5_code 50 = .ok (.ifCond .ne 7, 3) := by decide +kernel
theorem own_dprog_91_5_53 : decode prog_91_method_5_code 53 = .ok (.iconst 0, 1) := by decide +kernel
theorem own_dprog_91_5_54 : decode prog_91_method_5_code 54 = .ok (.goto 7, 3) := by decide +kernel
theorem own_dprog_91_5_57 : decode prog_91_method_5_code 57 = .ok (.iload 4, 2) := by decide +kernel
theorem own_dprog_91_5_59 : decode prog_91_method_5_code 59 = .ok (.iconst 1, 1) := by decide +kernel
theorem own_dprog_91_5_60 : decode prog_91_method_5_code 60 = .ok (.iadd, 1) := by decide +kernel
theorem own_dprog_91_5_61 : decode prog_91_method_5_code 61 = .ok (.istore 4, 2) := by decide +kernel
theorem own_dprog_91_5_63 : decode prog_91_method_5_code 63 = .ok (.goto (-48), 3) := by decide +kernel
theorem own_dprog_91_5_66 : decode prog_91_method_5_code 66 = .ok (.iconst (-1), 1) := by decide +kernel
theorem own_dprog_91_5_67 : decode prog_91_method_5_code 67 = .ok (.istore 5, 2) := by decide +kernel
theorem own_dprog_91_5_69 : decode prog_91_method_5_code 69 = .ok (.iload 4, 2) := by decide +kernel
theorem own_dprog_91_5_71 : decode prog_91_method_5_code 71 = .ok (.ifCond .eq 67, 3) := by decide +kernel
theorem own_dprog_91_5_74 : decode prog_91_method_5_code 74 = .ok (.iload 4, 2) := by decide +kernel
theorem own_dprog_91_5_76 : decode prog_91_method_5_code 76 = .ok (.aload_n 0, 1) := by decide +kernel
theorem own_dprog_91_5_77 : decode prog_91_method_5_code 77 = .ok (.getfield 9, 3) := by decide +kernel
theorem own_dprog_91_5_80 : decode prog_91_method_5_code 80 = .ok (.if_icmp .ge 34, 3) := by decide +kernel
theorem own_dprog_91_5_83 : decode prog_91_method_5_code 83 = .ok (.aload_n 0, 1) := by decide +kernel
theorem own_dprog_91_5_84 : decode prog_91_method_5_code 84 = .ok (.getfield 15, 3) := by decide +kernel
theorem own_dprog_91_5_87 : decode prog_91_method_5_code 87 = .ok (.iconst 2, 1) := by decide +kernel
theorem own_dprog_91_5_88 : decode prog_91_method_5_code 88 = .ok (.iload 4, 2) := by decide +kernel
theorem own_dprog_91_5_90 : decode prog_91_method_5_code 90 = .ok (.imul, 1) := by decide +kernel
theorem own_dprog_91_5_91 : decode prog_91_method_5_code 91 = .ok (.iaload, 1) := by decide +kernel
theorem own_dprog_91_5_92 : decode prog_91_method_5_code 92 = .ok (.iload_n 3, 1) := by decide +kernel
theorem own_dprog_91_5_93 : decode prog_91_method_5_code 93 = .ok (.if_icmp .gt 10, 3) := by decide +kernel
theorem own_dprog_91_5_96 : decode prog_91_method_5_code 96 = .ok (.iconst 2, 1) := by decide +kernel
theorem own_dprog_91_5_97 : decode prog_91_method_5_code 97 = .ok (.iload 4, 2) := by decide +kernel
theorem own_dprog_91_5_99 : decode prog_91_method_5_code 99 = .ok (.imul, 1) := by decide +kernel
theorem own_dprog_91_5_100 : decode prog_91_method_5_code 100 = .ok (.goto 9, 3) := by decide +kernel
theorem own_dprog_91_5_103 : decode prog_91_method_5_code 103 = .ok (.iconst 2, 1) := by decide +kernel
theorem own_dprog_91_5_104 : decode prog_91_method_5_code 104 = .ok (.iload 4, 2) := by decide +kernel
theorem own_dprog_91_5_106 : decode prog_91_method_5_code 106 = .ok (.imul, 1) := by decide +kernel
theorem own_dprog_91_5_107 : decode prog_91_method_5_code 107 = .ok (.iconst 1, 1) := by decide +kernel
theorem own_dprog_91_5_108 : decode prog_91_method_5_code 108 = .ok (.iadd, 1) := by decide +kernel
theorem own_dprog_91_5_109 : decode prog_91_method_5_code 109 = .ok (.istore 4, 2) := by decide +kernel
theorem own_dprog_91_5_111 : decode prog_91_method_5_code 111 = .ok (.goto (-37), 3) := by decide +kernel
theorem own_dprog_91_5_114 : decode prog_91_method_5_code 114 = .ok (.iload 4, 2) := by decide +kernel
theorem own_dprog_91_5_116 : decode prog_91_method_5_code 116 = .ok (.aload_n 0, 1) := by decide +kernel
theorem own_dprog_91_5_117 : decode prog_91_method_5_code 117 = .ok (.getfield 9, 3) := by decide +kernel
theorem own_dprog_91_5_120 : decode prog_91_method_5_code 120 = .ok (.isub, 1) := by decide +kernel
theorem own_dprog_91_5_121 : decode prog_91_method_5_code 121 = .ok (.iload_n 2, 1) := by decide +kernel
theorem own_dprog_91_5_122 : decode prog_91_method_5_code 122 = .ok (.if_icmp .ge 13, 3) := by decide +kernel
theorem own_dprog_91_5_125 : decode prog_91_method_5_code 125 = .ok (.iload 4, 2) := by decide +kernel
theorem own_dprog_91_5_127 : decode prog_91_method_5_code 127 = .ok (.aload_n 0, 1) := by decide +kernel
theorem own_dprog_91_5_128 : decode prog_91_method_5_code 128 = .ok (.getfield 9, 3) := by decide +kernel
theorem own_dprog_91_5_131 : decode prog_91_method_5_code 131 = .ok (.isub, 1) := by decide +kernel
theorem own_dprog_91_5_132 : decode prog_91_method_5_code 132 = .ok (.goto 4, 3) := by decide +kernel
theorem own_dprog_91_5_135 : decode prog_91_method_5_code 135 = .ok (.iconst (-1), 1) := by decide +kernel
theorem own_dprog_91_5_136 : decode prog_91_method_5_code 136 = .ok (.istore 5, 2) := by decide +kernel
theorem own_dprog_91_5_138 : decode prog_91_method_5_code 138 = .ok (.iload 5, 2) := by decide +kernel
theorem own_dprog_91_5_140 : decode prog_91_method_5_code 140 = .ok (.ireturn, 1) := by decide +kernel
set_option maxRecDepth 65536 in
set_option maxHeartbeats 40000000 in
theorem own_st1 {p : Program} {l : Launch} {e : Env} {R : Room} {s : State} {m : MethodId} {args : Array Value} {below : List Frame} {meth : Method} {c : Code} {T0 : State} {locs : List Loc} {cells slots : Nat} {Z : State} {a0 : Array Value} {h0 : Heap} (a1 : Addr) (p1 p2 p3 j : Int32) (s5 : Slot) 
    (X0 : Stand p l e R s m args below meth c T0 locs cells slots) (hx : p.tables.exec = Jvm.exec) (hZ : Z.Warmed39 s.vm) (hw : ∀ d ∈ tables_1, d.before a0 Z = true) (hby : c.code = prog_91_method_5_code) (hml : c.maxLocals = 6) (hown : s.vm.findClass "com/example/unknot/unknot/sp/MinTree" = some m.cls) (e0 : T0.heap = h0) (hj : j % (2 : Int32) = (1 : Int32)) :
     ∀ target, Steps p.tables e below (T0.setTop (mkF m 31 #[.val (.ref a1), .val (.int p1), .val (.int p2), .val (.int p3), .val (.int (j / (2 : Int32))), s5] [])) target → Steps p.tables e below (T0.setTop (mkF m 31 #[.val (.ref a1), .val (.int p1), .val (.int p2), .val (.int p3), .val (.int j), s5] [])) target := by
  intro target kt
  show Steps p.tables e below (T0.setTop (mkF m 31 #[.val (.ref a1), .val (.int p1), .val (.int p2), .val (.int p3), .val (.int j), s5] [])) _
  refine XS.iload X0.here hx rfl (hb hby own_dprog_91_5_31) rfl ?_
  show Steps p.tables e below (T0.setTop (mkF m 33 #[.val (.ref a1), .val (.int p1), .val (.int p2), .val (.int p3), .val (.int j), s5] [(.int j)])) _
  refine XS.iconst X0.here hx rfl (hb hby own_dprog_91_5_33) ?_
  show Steps p.tables e below (T0.setTop (mkF m 34 #[.val (.ref a1), .val (.int p1), .val (.int p2), .val (.int p3), .val (.int j), s5] [(.int (2 : Int32)), (.int j)])) _
  refine iremM X0 hx rfl (hb hby own_dprog_91_5_34) rfl (by decide) ?_
  show Steps p.tables e below (T0.setTop (mkF m 35 #[.val (.ref a1), .val (.int p1), .val (.int p2), .val (.int p3), .val (.int j), s5] [(.int (j % (2 : Int32)))])) _
  refine XS.iconst X0.here hx rfl (hb hby own_dprog_91_5_35) ?_
  show Steps p.tables e below (T0.setTop (mkF m 36 #[.val (.ref a1), .val (.int p1), .val (.int p2), .val (.int p3), .val (.int j), s5] [(.int (1 : Int32)), (.int (j % (2 : Int32)))])) _
  refine XS.icmpNo X0.here hx rfl (hb hby own_dprog_91_5_36) rfl (teq hj).2 ?_
  show Steps p.tables e below (T0.setTop (mkF m 39 #[.val (.ref a1), .val (.int p1), .val (.int p2), .val (.int p3), .val (.int j), s5] [])) _
  refine XS.iload X0.here hx rfl (hb hby own_dprog_91_5_39) rfl ?_
  show Steps p.tables e below (T0.setTop (mkF m 41 #[.val (.ref a1), .val (.int p1), .val (.int p2), .val (.int p3), .val (.int j), s5] [(.int j)])) _
  refine XS.iconst X0.here hx rfl (hb hby own_dprog_91_5_41) ?_
  show Steps p.tables e below (T0.setTop (mkF m 42 #[.val (.ref a1), .val (.int p1), .val (.int p2), .val (.int p3), .val (.int j), s5] [(.int (2 : Int32)), (.int j)])) _
  refine XS.idiv X0.here hx rfl (hb hby own_dprog_91_5_42) rfl (by decide) ?_
  show Steps p.tables e below (T0.setTop (mkF m 43 #[.val (.ref a1), .val (.int p1), .val (.int p2), .val (.int p3), .val (.int j), s5] [(.int (j / (2 : Int32)))])) _
  refine XS.istore X0.here hx rfl (hb hby own_dprog_91_5_43) rfl (l' := #[.val (.ref a1), .val (.int p1), .val (.int p2), .val (.int p3), .val (.int (j / (2 : Int32))), s5]) rfl ?_
  show Steps p.tables e below (T0.setTop (mkF m 45 #[.val (.ref a1), .val (.int p1), .val (.int p2), .val (.int p3), .val (.int (j / (2 : Int32))), s5] [])) _
  refine XS.goto X0.here hx rfl (pc0 := 45) (pc' := 31) rfl (hb hby own_dprog_91_5_45) (by decide) (by decide) ?_
  exact kt
set_option maxRecDepth 65536 in
set_option maxHeartbeats 40000000 in
theorem own_st2 {p : Program} {l : Launch} {e : Env} {R : Room} {s : State} {m : MethodId} {args : Array Value} {below : List Frame} {meth : Method} {c : Code} {T0 : State} {locs : List Loc} {cells slots : Nat} {Z : State} {a0 : Array Value} {h0 : Heap} (a1 : Addr) (p1 p2 p3 j : Int32) (s5 : Slot) 
    (X0 : Stand p l e R s m args below meth c T0 locs cells slots) (hx : p.tables.exec = Jvm.exec) (hZ : Z.Warmed39 s.vm) (hw : ∀ d ∈ tables_1, d.before a0 Z = true) (hby : c.code = prog_91_method_5_code) (hml : c.maxLocals = 6) (hown : s.vm.findClass "com/example/unknot/unknot/sp/MinTree" = some m.cls) (e0 : T0.heap = h0) (hj : ¬ j % (2 : Int32) = (1 : Int32)) (h0j : j = (0 : Int32)) :
     ∀ target, Steps p.tables e below (T0.setTop (mkF m 15 #[.val (.ref a1), .val (.int p1), .val (.int p2), .val (.int p3), .val (.int (0 : Int32)), s5] [])) target → Steps p.tables e below (T0.setTop (mkF m 31 #[.val (.ref a1), .val (.int p1), .val (.int p2), .val (.int p3), .val (.int j), s5] [])) target := by
  intro target kt
  show Steps p.tables e below (T0.setTop (mkF m 31 #[.val (.ref a1), .val (.int p1), .val (.int p2), .val (.int p3), .val (.int j), s5] [])) _
  refine XS.iload X0.here hx rfl (hb hby own_dprog_91_5_31) rfl ?_
  show Steps p.tables e below (T0.setTop (mkF m 33 #[.val (.ref a1), .val (.int p1), .val (.int p2), .val (.int p3), .val (.int j), s5] [(.int j)])) _
  refine XS.iconst X0.here hx rfl (hb hby own_dprog_91_5_33) ?_
  show Steps p.tables e below (T0.setTop (mkF m 34 #[.val (.ref a1), .val (.int p1), .val (.int p2), .val (.int p3), .val (.int j), s5] [(.int (2 : Int32)), (.int j)])) _
  refine iremM X0 hx rfl (hb hby own_dprog_91_5_34) rfl (by decide) ?_
  show Steps p.tables e below (T0.setTop (mkF m 35 #[.val (.ref a1), .val (.int p1), .val (.int p2), .val (.int p3), .val (.int j), s5] [(.int (j % (2 : Int32)))])) _
  refine XS.iconst X0.here hx rfl (hb hby own_dprog_91_5_35) ?_
  show Steps p.tables e below (T0.setTop (mkF m 36 #[.val (.ref a1), .val (.int p1), .val (.int p2), .val (.int p3), .val (.int j), s5] [(.int (1 : Int32)), (.int (j % (2 : Int32)))])) _
  refine XS.icmpYes X0.here hx rfl (pc0 := 36) (pc' := 48) rfl (hb hby own_dprog_91_5_36) rfl (feq hj).2 (by decide) (by decide) ?_
  show Steps p.tables e below (T0.setTop (mkF m 48 #[.val (.ref a1), .val (.int p1), .val (.int p2), .val (.int p3), .val (.int j), s5] [])) _
  refine XS.iload X0.here hx rfl (hb hby own_dprog_91_5_48) rfl ?_
  show Steps p.tables e below (T0.setTop (mkF m 50 #[.val (.ref a1), .val (.int p1), .val (.int p2), .val (.int p3), .val (.int j), s5] [(.int j)])) _
  refine XS.ifNo X0.here hx rfl (hb hby own_dprog_91_5_50) rfl ((if0 _ _).trans (teq h0j).2) ?_
  show Steps p.tables e below (T0.setTop (mkF m 53 #[.val (.ref a1), .val (.int p1), .val (.int p2), .val (.int p3), .val (.int j), s5] [])) _
  refine XS.iconst X0.here hx rfl (hb hby own_dprog_91_5_53) ?_
  show Steps p.tables e below (T0.setTop (mkF m 54 #[.val (.ref a1), .val (.int p1), .val (.int p2), .val (.int p3), .val (.int j), s5] [(.int (0 : Int32))])) _
  refine XS.goto X0.here hx rfl (pc0 := 54) (pc' := 61) rfl (hb hby own_dprog_91_5_54) (by decide) (by decide) ?_
  show Steps p.tables e below (T0.setTop (mkF m 61 #[.val (.ref a1), .val (.int p1), .val (.int p2), .val (.int p3), .val (.int j), s5] [(.int (0 : Int32))])) _
  refine XS.istore X0.here hx rfl (hb hby own_dprog_91_5_61) rfl (l' := #[.val (.ref a1), .val (.int p1), .val (.int p2), .val (.int p3), .val (.int (0 : Int32)), s5]) rfl ?_
  show Steps p.tables e below (T0.setTop (mkF m 63 #[.val (.ref a1), .val (.int p1), .val (.int p2), .val (.int p3), .val (.int (0 : Int32)), s5] [])) _
  refine XS.goto X0.here hx rfl (pc0 := 63) (pc' := 15) rfl (hb hby own_dprog_91_5_63) (by decide) (by decide) ?_
  exact kt
set_option maxRecDepth 65536 in
set_option maxHeartbeats 40000000 in
theorem own_st3 {p : Program} {l : Launch} {e : Env} {R : Room} {s : State} {m : MethodId} {args : Array Value} {below : List Frame} {meth : Method} {c : Code} {T0 : State} {locs : List Loc} {cells slots : Nat} {Z : State} {a0 : Array Value} {h0 : Heap} (a1 : Addr) (p1 p2 p3 j : Int32) (s5 : Slot) 
    (X0 : Stand p l e R s m args below meth c T0 locs cells slots) (hx : p.tables.exec = Jvm.exec) (hZ : Z.Warmed39 s.vm) (hw : ∀ d ∈ tables_1, d.before a0 Z = true) (hby : c.code = prog_91_method_5_code) (hml : c.maxLocals = 6) (hown : s.vm.findClass "com/example/unknot/unknot/sp/MinTree" = some m.cls) (e0 : T0.heap = h0) (hj : ¬ j % (2 : Int32) = (1 : Int32)) (h0j : ¬ j = (0 : Int32)) :
     ∀ target, Steps p.tables e below (T0.setTop (mkF m 15 #[.val (.ref a1), .val (.int p1), .val (.int p2), .val (.int p3), .val (.int (j + (1 : Int32))), s5] [])) target → Steps p.tables e below (T0.setTop (mkF m 31 #[.val (.ref a1), .val (.int p1), .val (.int p2), .val (.int p3), .val (.int j), s5] [])) target := by
  intro target kt
  show Steps p.tables e below (T0.setTop (mkF m 31 #[.val (.ref a1), .val (.int p1), .val (.int p2), .val (.int p3), .val (.int j), s5] [])) _
  refine XS.iload X0.here hx rfl (hb hby own_dprog_91_5_31) rfl ?_
  show Steps p.tables e below (T0.setTop (mkF m 33 #[.val (.ref a1), .val (.int p1), .val (.int p2), .val (.int p3), .val (.int j), s5] [(.int j)])) _
  refine XS.iconst X0.here hx rfl (hb hby own_dprog_91_5_33) ?_
  show Steps p.tables e below (T0.setTop (mkF m 34 #[.val (.ref a1), .val (.int p1), .val (.int p2), .val (.int p3), .val (.int j), s5] [(.int (2 : Int32)), (.int j)])) _
  refine iremM X0 hx rfl (hb hby own_dprog_91_5_34) rfl (by decide) ?_
  show Steps p.tables e below (T0.setTop (mkF m 35 #[.val (.ref a1), .val (.int p1), .val (.int p2), .val (.int p3), .val (.int j), s5] [(.int (j % (2 : Int32)))])) _
  refine XS.iconst X0.here hx rfl (hb hby own_dprog_91_5_35) ?_
  show Steps p.tables e below (T0.setTop (mkF m 36 #[.val (.ref a1), .val (.int p1), .val (.int p2), .val (.int p3), .val (.int j), s5] [(.int (1 : Int32)), (.int (j % (2 : Int32)))])) _
  refine XS.icmpYes X0.here hx rfl (pc0 := 36) (pc' := 48) rfl (hb hby own_dprog_91_5_36) rfl (feq hj).2 (by decide) (by decide) ?_
  show Steps p.tables e below (T0.setTop (mkF m 48 #[.val (.ref a1), .val (.int p1), .val (.int p2), .val (.int p3), .val (.int j), s5] [])) _
  refine XS.iload X0.here hx rfl (hb hby own_dprog_91_5_48) rfl ?_
  show Steps p.tables e below (T0.setTop (mkF m 50 #[.val (.ref a1), .val (.int p1), .val (.int p2), .val (.int p3), .val (.int j), s5] [(.int j)])) _
  refine XS.ifYes X0.here hx rfl (pc0 := 50) (pc' := 57) rfl (hb hby own_dprog_91_5_50) rfl ((if0 _ _).trans (feq h0j).2) (by decide) (by decide) ?_
  show Steps p.tables e below (T0.setTop (mkF m 57 #[.val (.ref a1), .val (.int p1), .val (.int p2), .val (.int p3), .val (.int j), s5] [])) _
  refine XS.iload X0.here hx rfl (hb hby own_dprog_91_5_57) rfl ?_
  show Steps p.tables e below (T0.setTop (mkF m 59 #[.val (.ref a1), .val (.int p1), .val (.int p2), .val (.int p3), .val (.int j), s5] [(.int j)])) _
  refine XS.iconst X0.here hx rfl (hb hby own_dprog_91_5_59) ?_
  show Steps p.tables e below (T0.setTop (mkF m 60 #[.val (.ref a1), .val (.int p1), .val (.int p2), .val (.int p3), .val (.int j), s5] [(.int (1 : Int32)), (.int j)])) _
  refine XS.iadd X0.here hx rfl (hb hby own_dprog_91_5_60) rfl ?_
  show Steps p.tables e below (T0.setTop (mkF m 61 #[.val (.ref a1), .val (.int p1), .val (.int p2), .val (.int p3), .val (.int j), s5] [(.int (j + (1 : Int32)))])) _
  refine XS.istore X0.here hx rfl (hb hby own_dprog_91_5_61) rfl (l' := #[.val (.ref a1), .val (.int p1), .val (.int p2), .val (.int p3), .val (.int (j + (1 : Int32))), s5]) rfl ?_
  show Steps p.tables e below (T0.setTop (mkF m 63 #[.val (.ref a1), .val (.int p1), .val (.int p2), .val (.int p3), .val (.int (j + (1 : Int32))), s5] [])) _
  refine XS.goto X0.here hx rfl (pc0 := 63) (pc' := 15) rfl (hb hby own_dprog_91_5_63) (by decide) (by decide) ?_
  exact kt
set_option maxRecDepth 65536 in
set_option maxHeartbeats 40000000 in
theorem own_ou1 {p : Program} {l : Launch} {e : Env} {R : Room} {s : State} {m : MethodId} {args : Array Value} {below : List Frame} {meth : Method} {c : Code} {T0 : State} {locs : List Loc} {cells slots : Nat} {Z : State} {a0 : Array Value} {h0 : Heap} (a1 : Addr) (p1 p2 p3 j : Int32) (s5 : Slot) (b : Addr) (cl : Cell) (x : Int32)
    (X0 : Stand p l e R s m args below meth c T0 locs cells slots) (hx : p.tables.exec = Jvm.exec) (hZ : Z.Warmed39 s.vm) (hw : ∀ d ∈ tables_1, d.before a0 Z = true) (hby : c.code = prog_91_method_5_code) (hml : c.maxLocals = 6) (hown : s.vm.findClass "com/example/unknot/unknot/sp/MinTree" = some m.cls) (e0 : T0.heap = h0) (hj : ¬ j = (0 : Int32)) (hc : p3 < x) (F2 : Fld Z h0 a1 "com/example/unknot/unknot/sp/MinTree" "least" "[I" (.ref b)) (Ar : Arr Z h0 b cl .int) (hin : ¬ (j < 0 ∨ cl.slots.size ≤ j.toNatClampNeg)) (hat : cl.slots[j.toNatClampNeg]? = some (.int x)) :
    ∃ T' : State, Stand p l e R s m args below meth c T' locs cells slots ∧ T'.heap = h0 ∧ ∀ target, Steps p.tables e below (T'.setTop (mkF m 31 #[.val (.ref a1), .val (.int p1), .val (.int p2), .val (.int p3), .val (.int j), s5] [])) target → Steps p.tables e below (T0.setTop (mkF m 15 #[.val (.ref a1), .val (.int p1), .val (.int p2), .val (.int p3), .val (.int j), s5] [])) target := by
  obtain ⟨T1, X1, e1, st1⟩ := getF X0 hx hZ hown (host := "") (Or.inl (hw _ (List.mem_of_getElem? (i := 12) rfl))) Via.refl e0 F2 (g := (mkF m 21 #[.val (.ref a1), .val (.int p1), .val (.int p2), .val (.int p3), .val (.int j), s5] [(.ref a1)])) rfl rfl (hb hby own_dprog_91_5_21)
  refine ⟨T1, X1, e1, fun target kt => ?_⟩
  show Steps p.tables e below (T0.setTop (mkF m 15 #[.val (.ref a1), .val (.int p1), .val (.int p2), .val (.int p3), .val (.int j), s5] [])) _
  refine XS.iload X0.here hx rfl (hb hby own_dprog_91_5_15) rfl ?_
  show Steps p.tables e below (T0.setTop (mkF m 17 #[.val (.ref a1), .val (.int p1), .val (.int p2), .val (.int p3), .val (.int j), s5] [(.int j)])) _
  refine XS.ifNo X0.here hx rfl (hb hby own_dprog_91_5_17) rfl ((if0 _ _).trans (feq hj).1) ?_
  show Steps p.tables e below (T0.setTop (mkF m 20 #[.val (.ref a1), .val (.int p1), .val (.int p2), .val (.int p3), .val (.int j), s5] [])) _
  refine XS.aloadN X0.here hx rfl (hb hby own_dprog_91_5_20) rfl rfl ?_
  show Steps p.tables e below (T0.setTop (mkF m 21 #[.val (.ref a1), .val (.int p1), .val (.int p2), .val (.int p3), .val (.int j), s5] [(.ref a1)])) _
  refine st1 _ ?_
  show Steps p.tables e below (T1.setTop (mkF m 24 #[.val (.ref a1), .val (.int p1), .val (.int p2), .val (.int p3), .val (.int j), s5] [(.ref b)])) _
  refine XS.iload X1.here hx rfl (hb hby own_dprog_91_5_24) rfl ?_
  show Steps p.tables e below (T1.setTop (mkF m 26 #[.val (.ref a1), .val (.int p1), .val (.int p2), .val (.int p3), .val (.int j), s5] [(.int j), (.ref b)])) _
  refine X1.iaload hx (j := j) (v := (.int x)) (by rw [e1]; exact Ar.1) (State.isArrayOf_alike hZ.alike Ar.2.1) Ar.2.2 hin hat (g := (mkF m 26 #[.val (.ref a1), .val (.int p1), .val (.int p2), .val (.int p3), .val (.int j), s5] [(.int j), (.ref b)])) rfl rfl (hb hby own_dprog_91_5_26) _ ?_
  show Steps p.tables e below (T1.setTop (mkF m 27 #[.val (.ref a1), .val (.int p1), .val (.int p2), .val (.int p3), .val (.int j), s5] [(.int x)])) _
  refine XS.iloadN X1.here hx rfl (hb hby own_dprog_91_5_27) rfl ?_
  show Steps p.tables e below (T1.setTop (mkF m 28 #[.val (.ref a1), .val (.int p1), .val (.int p2), .val (.int p3), .val (.int j), s5] [(.int p3), (.int x)])) _
  refine XS.icmpNo X1.here hx rfl (hb hby own_dprog_91_5_28) rfl (tlt hc).2.2.2 ?_
  exact kt
set_option maxRecDepth 65536 in
set_option maxHeartbeats 40000000 in
theorem own_ou2 {p : Program} {l : Launch} {e : Env} {R : Room} {s : State} {m : MethodId} {args : Array Value} {below : List Frame} {meth : Method} {c : Code} {T0 : State} {locs : List Loc} {cells slots : Nat} {Z : State} {a0 : Array Value} {h0 : Heap} (a1 : Addr) (p1 p2 p3 j : Int32) (s5 : Slot) (b : Addr) (cl : Cell) (x : Int32)
    (X0 : Stand p l e R s m args below meth c T0 locs cells slots) (hx : p.tables.exec = Jvm.exec) (hZ : Z.Warmed39 s.vm) (hw : ∀ d ∈ tables_1, d.before a0 Z = true) (hby : c.code = prog_91_method_5_code) (hml : c.maxLocals = 6) (hown : s.vm.findClass "com/example/unknot/unknot/sp/MinTree" = some m.cls) (e0 : T0.heap = h0) (hj : ¬ j = (0 : Int32)) (hc : ¬ p3 < x) (F2 : Fld Z h0 a1 "com/example/unknot/unknot/sp/MinTree" "least" "[I" (.ref b)) (Ar : Arr Z h0 b cl .int) (hin : ¬ (j < 0 ∨ cl.slots.size ≤ j.toNatClampNeg)) (hat : cl.slots[j.toNatClampNeg]? = some (.int x)) :
    ∃ T' : State, Stand p l e R s m args below meth c T' locs cells slots ∧ T'.heap = h0 ∧ ∀ target, Steps p.tables e below (T'.setTop (mkF m 66 #[.val (.ref a1), .val (.int p1), .val (.int p2), .val (.int p3), .val (.int j), s5] [])) target → Steps p.tables e below (T0.setTop (mkF m 15 #[.val (.ref a1), .val (.int p1), .val (.int p2), .val (.int p3), .val (.int j), s5] [])) target := by
  obtain ⟨T1, X1, e1, st1⟩ := getF X0 hx hZ hown (host := "") (Or.inl (hw _ (List.mem_of_getElem? (i := 12) rfl))) Via.refl e0 F2 (g := (mkF m 21 #[.val (.ref a1), .val (.int p1), .val (.int p2), .val (.int p3), .val (.int j), s5] [(.ref a1)])) rfl rfl (hb hby own_dprog_91_5_21)
  refine ⟨T1, X1, e1, fun target kt => ?_⟩
  show Steps p.tables e below (T0.setTop (mkF m 15 #[.val (.ref a1), .val (.int p1), .val (.int p2), .val (.int p3), .val (.int j), s5] [])) _
  refine XS.iload X0.here hx rfl (hb hby own_dprog_91_5_15) rfl ?_
  show Steps p.tables e below (T0.setTop (mkF m 17 #[.val (.ref a1), .val (.int p1), .val (.int p2), .val (.int p3), .val (.int j), s5] [(.int j)])) _
  refine XS.ifNo X0.here hx rfl (hb hby own_dprog_91_5_17) rfl ((if0 _ _).trans (feq hj).1) ?_
  show Steps p.tables e below (T0.setTop (mkF m 20 #[.val (.ref a1), .val (.int p1), .val (.int p2), .val (.int p3), .val (.int j), s5] [])) _
  refine XS.aloadN X0.here hx rfl (hb hby own_dprog_91_5_20) rfl rfl ?_
  show Steps p.tables e below (T0.setTop (mkF m 21 #[.val (.ref a1), .val (.int p1), .val (.int p2), .val (.int p3), .val (.int j), s5] [(.ref a1)])) _
  refine st1 _ ?_
  show Steps p.tables e below (T1.setTop (mkF m 24 #[.val (.ref a1), .val (.int p1), .val (.int p2), .val (.int p3), .val (.int j), s5] [(.ref b)])) _
  refine XS.iload X1.here hx rfl (hb hby own_dprog_91_5_24) rfl ?_
  show Steps p.tables e below (T1.setTop (mkF m 26 #[.val (.ref a1), .val (.int p1), .val (.int p2), .val (.int p3), .val (.int j), s5] [(.int j), (.ref b)])) _
  refine X1.iaload hx (j := j) (v := (.int x)) (by rw [e1]; exact Ar.1) (State.isArrayOf_alike hZ.alike Ar.2.1) Ar.2.2 hin hat (g := (mkF m 26 #[.val (.ref a1), .val (.int p1), .val (.int p2), .val (.int p3), .val (.int j), s5] [(.int j), (.ref b)])) rfl rfl (hb hby own_dprog_91_5_26) _ ?_
  show Steps p.tables e below (T1.setTop (mkF m 27 #[.val (.ref a1), .val (.int p1), .val (.int p2), .val (.int p3), .val (.int j), s5] [(.int x)])) _
  refine XS.iloadN X1.here hx rfl (hb hby own_dprog_91_5_27) rfl ?_
  show Steps p.tables e below (T1.setTop (mkF m 28 #[.val (.ref a1), .val (.int p1), .val (.int p2), .val (.int p3), .val (.int j), s5] [(.int p3), (.int x)])) _
  refine XS.icmpYes X1.here hx rfl (pc0 := 28) (pc' := 66) rfl (hb hby own_dprog_91_5_28) rfl (flt hc).2.2.2 (by decide) (by decide) ?_
  exact kt
set_option maxRecDepth 65536 in
set_option maxHeartbeats 40000000 in
theorem own_ou3 {p : Program} {l : Launch} {e : Env} {R : Room} {s : State} {m : MethodId} {args : Array Value} {below : List Frame} {meth : Method} {c : Code} {T0 : State} {locs : List Loc} {cells slots : Nat} {Z : State} {a0 : Array Value} {h0 : Heap} (a1 : Addr) (p1 p2 p3 j : Int32) (s5 : Slot) 
    (X0 : Stand p l e R s m args below meth c T0 locs cells slots) (hx : p.tables.exec = Jvm.exec) (hZ : Z.Warmed39 s.vm) (hw : ∀ d ∈ tables_1, d.before a0 Z = true) (hby : c.code = prog_91_method_5_code) (hml : c.maxLocals = 6) (hown : s.vm.findClass "com/example/unknot/unknot/sp/MinTree" = some m.cls) (e0 : T0.heap = h0) (hj : j = (0 : Int32)) :
     ∀ target, Steps p.tables e below (T0.setTop (mkF m 66 #[.val (.ref a1), .val (.int p1), .val (.int p2), .val (.int p3), .val (.int j), s5] [])) target → Steps p.tables e below (T0.setTop (mkF m 15 #[.val (.ref a1), .val (.int p1), .val (.int p2), .val (.int p3), .val (.int j), s5] [])) target := by
  intro target kt
  show Steps p.tables e below (T0.setTop (mkF m 15 #[.val (.ref a1), .val (.int p1), .val (.int p2), .val (.int p3), .val (.int j), s5] [])) _
  refine XS.iload X0.here hx rfl (hb hby own_dprog_91_5_15) rfl ?_
  show Steps p.tables e below (T0.setTop (mkF m 17 #[.val (.ref a1), .val (.int p1), .val (.int p2), .val (.int p3), .val (.int j), s5] [(.int j)])) _
  refine XS.ifYes X0.here hx rfl (pc0 := 17) (pc' := 66) rfl (hb hby own_dprog_91_5_17) rfl ((if0 _ _).trans (teq hj).1) (by decide) (by decide) ?_
  exact kt
set_option maxRecDepth 65536 in
set_option maxHeartbeats 40000000 in
theorem own_de1 {p : Program} {l : Launch} {e : Env} {R : Room} {s : State} {m : MethodId} {args : Array Value} {below : List Frame} {meth : Method} {c : Code} {T0 : State} {locs : List Loc} {cells slots : Nat} {Z : State} {a0 : Array Value} {h0 : Heap} (a1 : Addr) (p1 p2 p3 j : Int32) (s5 : Slot) (lv : Int32) (b : Addr) (cl : Cell) (x : Int32)
    (X0 : Stand p l e R s m args below meth c T0 locs cells slots) (hx : p.tables.exec = Jvm.exec) (hZ : Z.Warmed39 s.vm) (hw : ∀ d ∈ tables_1, d.before a0 Z = true) (hby : c.code = prog_91_method_5_code) (hml : c.maxLocals = 6) (hown : s.vm.findClass "com/example/unknot/unknot/sp/MinTree" = some m.cls) (e0 : T0.heap = h0) (hj : j < lv) (hc : p3 < x) (F1 : Fld Z h0 a1 "com/example/unknot/unknot/sp/MinTree" "leaves" "I" (.int lv)) (F2 : Fld Z h0 a1 "com/example/unknot/unknot/sp/MinTree" "least" "[I" (.ref b)) (Ar : Arr Z h0 b cl .int) (hin : ¬ (((2 : Int32) * j) < 0 ∨ cl.slots.size ≤ ((2 : Int32) * j).toNatClampNeg)) (hat : cl.slots[((2 : Int32) * j).toNatClampNeg]? = some (.int x)) :
    ∃ T' : State, Stand p l e R s m args below meth c T' locs cells slots ∧ T'.heap = h0 ∧ ∀ target, Steps p.tables e below (T'.setTop (mkF m 74 #[.val (.ref a1), .val (.int p1), .val (.int p2), .val (.int p3), .val (.int (((2 : Int32) * j) + (1 : Int32))), s5] [])) target → Steps p.tables e below (T0.setTop (mkF m 74 #[.val (.ref a1), .val (.int p1), .val (.int p2), .val (.int p3), .val (.int j), s5] [])) target := by
  obtain ⟨T1, X1, e1, st1⟩ := getF X0 hx hZ hown (host := "") (Or.inl (hw _ (List.mem_of_getElem? (i := 9) rfl))) Via.refl e0 F1 (g := (mkF m 77 #[.val (.ref a1), .val (.int p1), .val (.int p2), .val (.int p3), .val (.int j), s5] [(.ref a1), (.int j)])) rfl rfl (hb hby own_dprog_91_5_77)
  obtain ⟨T2, X2, e2, st2⟩ := getF X1 hx hZ hown (host := "") (Or.inl (hw _ (List.mem_of_getElem? (i := 12) rfl))) Via.refl e1 F2 (g := (mkF m 84 #[.val (.ref a1), .val (.int p1), .val (.int p2), .val (.int p3), .val (.int j), s5] [(.ref a1)])) rfl rfl (hb hby own_dprog_91_5_84)
  refine ⟨T2, X2, e2, fun target kt => ?_⟩
  show Steps p.tables e below (T0.setTop (mkF m 74 #[.val (.ref a1), .val (.int p1), .val (.int p2), .val (.int p3), .val (.int j), s5] [])) _
  refine XS.iload X0.here hx rfl (hb hby own_dprog_91_5_74) rfl ?_
  show Steps p.tables e below (T0.setTop (mkF m 76 #[.val (.ref a1), .val (.int p1), .val (.int p2), .val (.int p3), .val (.int j), s5] [(.int j)])) _
  refine XS.aloadN X0.here hx rfl (hb hby own_dprog_91_5_76) rfl rfl ?_
  show Steps p.tables e below (T0.setTop (mkF m 77 #[.val (.ref a1), .val (.int p1), .val (.int p2), .val (.int p3), .val (.int j), s5] [(.ref a1), (.int j)])) _
  refine st1 _ ?_
  show Steps p.tables e below (T1.setTop (mkF m 80 #[.val (.ref a1), .val (.int p1), .val (.int p2), .val (.int p3), .val (.int j), s5] [(.int lv), (.int j)])) _
  refine XS.icmpNo X1.here hx rfl (hb hby own_dprog_91_5_80) rfl (tlt hj).2.1 ?_
  show Steps p.tables e below (T1.setTop (mkF m 83 #[.val (.ref a1), .val (.int p1), .val (.int p2), .val (.int p3), .val (.int j), s5] [])) _
  refine XS.aloadN X1.here hx rfl (hb hby own_dprog_91_5_83) rfl rfl ?_
  show Steps p.tables e below (T1.setTop (mkF m 84 #[.val (.ref a1), .val (.int p1), .val (.int p2), .val (.int p3), .val (.int j), s5] [(.ref a1)])) _
  refine st2 _ ?_
  show Steps p.tables e below (T2.setTop (mkF m 87 #[.val (.ref a1), .val (.int p1), .val (.int p2), .val (.int p3), .val (.int j), s5] [(.ref b)])) _
  refine XS.iconst X2.here hx rfl (hb hby own_dprog_91_5_87) ?_
  show Steps p.tables e below (T2.setTop (mkF m 88 #[.val (.ref a1), .val (.int p1), .val (.int p2), .val (.int p3), .val (.int j), s5] [(.int (2 : Int32)), (.ref b)])) _
  refine XS.iload X2.here hx rfl (hb hby own_dprog_91_5_88) rfl ?_
  show Steps p.tables e below (T2.setTop (mkF m 90 #[.val (.ref a1), .val (.int p1), .val (.int p2), .val (.int p3), .val (.int j), s5] [(.int j), (.int (2 : Int32)), (.ref b)])) _
  refine XS.imul X2.here hx rfl (hb hby own_dprog_91_5_90) rfl ?_
  show Steps p.tables e below (T2.setTop (mkF m 91 #[.val (.ref a1), .val (.int p1), .val (.int p2), .val (.int p3), .val (.int j), s5] [(.int ((2 : Int32) * j)), (.ref b)])) _
  refine X2.iaload hx (j := ((2 : Int32) * j)) (v := (.int x)) (by rw [e2]; exact Ar.1) (State.isArrayOf_alike hZ.alike Ar.2.1) Ar.2.2 hin hat (g := (mkF m 91 #[.val (.ref a1), .val (.int p1), .val (.int p2), .val (.int p3), .val (.int j), s5] [(.int ((2 : Int32) * j)), (.ref b)])) rfl rfl (hb hby own_dprog_91_5_91) _ ?_
  show Steps p.tables e below (T2.setTop (mkF m 92 #[.val (.ref a1), .val (.int p1), .val (.int p2), .val (.int p3), .val (.int j), s5] [(.int x)])) _
  refine XS.iloadN X2.here hx rfl (hb hby own_dprog_91_5_92) rfl ?_
  show Steps p.tables e below (T2.setTop (mkF m 93 #[.val (.ref a1), .val (.int p1), .val (.int p2), .val (.int p3), .val (.int j), s5] [(.int p3), (.int x)])) _
  refine XS.icmpYes X2.here hx rfl (pc0 := 93) (pc' := 103) rfl (hb hby own_dprog_91_5_93) rfl (tlt hc).2.2.1 (by decide) (by decide) ?_
  show Steps p.tables e below (T2.setTop (mkF m 103 #[.val (.ref a1), .val (.int p1), .val (.int p2), .val (.int p3), .val (.int j), s5] [])) _
  refine XS.iconst X2.here hx rfl (hb hby own_dprog_91_5_103) ?_
  show Steps p.tables e below (T2.setTop (mkF m 104 #[.val (.ref a1), .val (.int p1), .val (.int p2), .val (.int p3), .val (.int j), s5] [(.int (2 : Int32))])) _
  refine XS.iload X2.here hx rfl (hb hby own_dprog_91_5_104) rfl ?_
  show Steps p.tables e below (T2.setTop (mkF m 106 #[.val (.ref a1), .val (.int p1), .val (.int p2), .val (.int p3), .val (.int j), s5] [(.int j), (.int (2 : Int32))])) _
  refine XS.imul X2.here hx rfl (hb hby own_dprog_91_5_106) rfl ?_
  show Steps p.tables e below (T2.setTop (mkF m 107 #[.val (.ref a1), .val (.int p1), .val (.int p2), .val (.int p3), .val (.int j), s5] [(.int ((2 : Int32) * j))])) _
  refine XS.iconst X2.here hx rfl (hb hby own_dprog_91_5_107) ?_
  show Steps p.tables e below (T2.setTop (mkF m 108 #[.val (.ref a1), .val (.int p1), .val (.int p2), .val (.int p3), .val (.int j), s5] [(.int (1 : Int32)), (.int ((2 : Int32) * j))])) _
  refine XS.iadd X2.here hx rfl (hb hby own_dprog_91_5_108) rfl ?_
  show Steps p.tables e below (T2.setTop (mkF m 109 #[.val (.ref a1), .val (.int p1), .val (.int p2), .val (.int p3), .val (.int j), s5] [(.int (((2 : Int32) * j) + (1 : Int32)))])) _
  refine XS.istore X2.here hx rfl (hb hby own_dprog_91_5_109) rfl (l' := #[.val (.ref a1), .val (.int p1), .val (.int p2), .val (.int p3), .val (.int (((2 : Int32) * j) + (1 : Int32))), s5]) rfl ?_
  show Steps p.tables e below (T2.setTop (mkF m 111 #[.val (.ref a1), .val (.int p1), .val (.int p2), .val (.int p3), .val (.int (((2 : Int32) * j) + (1 : Int32))), s5] [])) _
  refine XS.goto X2.here hx rfl (pc0 := 111) (pc' := 74) rfl (hb hby own_dprog_91_5_111) (by decide) (by decide) ?_
  exact kt
set_option maxRecDepth 65536 in
set_option maxHeartbeats 40000000 in
theorem own_de2 {p : Program} {l : Launch} {e : Env} {R : Room} {s : State} {m : MethodId} {args : Array Value} {below : List Frame} {meth : Method} {c : Code} {T0 : State} {locs : List Loc} {cells slots : Nat} {Z : State} {a0 : Array Value} {h0 : Heap} (a1 : Addr) (p1 p2 p3 j : Int32) (s5 : Slot) (lv : Int32) (b : Addr) (cl : Cell) (x : Int32)
    (X0 : Stand p l e R s m args below meth c T0 locs cells slots) (hx : p.tables.exec = Jvm.exec) (hZ : Z.Warmed39 s.vm) (hw : ∀ d ∈ tables_1, d.before a0 Z = true) (hby : c.code = prog_91_method_5_code) (hml : c.maxLocals = 6) (hown : s.vm.findClass "com/example/unknot/unknot/sp/MinTree" = some m.cls) (e0 : T0.heap = h0) (hj : j < lv) (hc : ¬ p3 < x) (F1 : Fld Z h0 a1 "com/example/unknot/unknot/sp/MinTree" "leaves" "I" (.int lv)) (F2 : Fld Z h0 a1 "com/example/unknot/unknot/sp/MinTree" "least" "[I" (.ref b)) (Ar : Arr Z h0 b cl .int) (hin : ¬ (((2 : Int32) * j) < 0 ∨ cl.slots.size ≤ ((2 : Int32) * j).toNatClampNeg)) (hat : cl.slots[((2 : Int32) * j).toNatClampNeg]? = some (.int x)) :
    ∃ T' : State, Stand p l e R s m args below meth c T' locs cells slots ∧ T'.heap = h0 ∧ ∀ target, Steps p.tables e below (T'.setTop (mkF m 74 #[.val (.ref a1), .val (.int p1), .val (.int p2), .val (.int p3), .val (.int ((2 : Int32) * j)), s5] [])) target → Steps p.tables e below (T0.setTop (mkF m 74 #[.val (.ref a1), .val (.int p1), .val (.int p2), .val (.int p3), .val (.int j), s5] [])) target := by
  obtain ⟨T1, X1, e1, st1⟩ := getF X0 hx hZ hown (host := "") (Or.inl (hw _ (List.mem_of_getElem? (i := 9) rfl))) Via.refl e0 F1 (g := (mkF m 77 #[.val (.ref a1), .val (.int p1), .val (.int p2), .val (.int p3), .val (.int j), s5] [(.ref a1), (.int j)])) rfl rfl (hb hby own_dprog_91_5_77)
  obtain ⟨T2, X2, e2, st2⟩ := getF X1 hx hZ hown (host := "") (Or.inl (hw _ (List.mem_of_getElem? (i := 12) rfl))) Via.refl e1 F2 (g := (mkF m 84 #[.val (.ref a1), .val (.int p1), .val (.int p2), .val (.int p3), .val (.int j), s5] [(.ref a1)])) rfl rfl (hb hby own_dprog_91_5_84)
  refine ⟨T2, X2, e2, fun target kt => ?_⟩
  show Steps p.tables e below (T0.setTop (mkF m 74 #[.val (.ref a1), .val (.int p1), .val (.int p2), .val (.int p3), .val (.int j), s5] [])) _
  refine XS.iload X0.here hx rfl (hb hby own_dprog_91_5_74) rfl ?_
  show Steps p.tables e below (T0.setTop (mkF m 76 #[.val (.ref a1), .val (.int p1), .val (.int p2), .val (.int p3), .val (.int j), s5] [(.int j)])) _
  refine XS.aloadN X0.here hx rfl (hb hby own_dprog_91_5_76) rfl rfl ?_
  show Steps p.tables e below (T0.setTop (mkF m 77 #[.val (.ref a1), .val (.int p1), .val (.int p2), .val (.int p3), .val (.int j), s5] [(.ref a1), (.int j)])) _
  refine st1 _ ?_
  show Steps p.tables e below (T1.setTop (mkF m 80 #[.val (.ref a1), .val (.int p1), .val (.int p2), .val (.int p3), .val (.int j), s5] [(.int lv), (.int j)])) _
  refine XS.icmpNo X1.here hx rfl (hb hby own_dprog_91_5_80) rfl (tlt hj).2.1 ?_
  show Steps p.tables e below (T1.setTop (mkF m 83 #[.val (.ref a1), .val (.int p1), .val (.int p2), .val (.int p3), .val (.int j), s5] [])) _
  refine XS.aloadN X1.here hx rfl (hb hby own_dprog_91_5_83) rfl rfl ?_
  show Steps p.tables e below (T1.setTop (mkF m 84 #[.val (.ref a1), .val (.int p1), .val (.int p2), .val (.int p3), .val (.int j), s5] [(.ref a1)])) _
  refine st2 _ ?_
  show Steps p.tables e below (T2.setTop (mkF m 87 #[.val (.ref a1), .val (.int p1), .val (.int p2), .val (.int p3), .val (.int j), s5] [(.ref b)])) _
  refine XS.iconst X2.here hx rfl (hb hby own_dprog_91_5_87) ?_
  show Steps p.tables e below (T2.setTop (mkF m 88 #[.val (.ref a1), .val (.int p1), .val (.int p2), .val (.int p3), .val (.int j), s5] [(.int (2 : Int32)), (.ref b)])) _
  refine XS.iload X2.here hx rfl (hb hby own_dprog_91_5_88) rfl ?_
  show Steps p.tables e below (T2.setTop (mkF m 90 #[.val (.ref a1), .val (.int p1), .val (.int p2), .val (.int p3), .val (.int j), s5] [(.int j), (.int (2 : Int32)), (.ref b)])) _
  refine XS.imul X2.here hx rfl (hb hby own_dprog_91_5_90) rfl ?_
  show Steps p.tables e below (T2.setTop (mkF m 91 #[.val (.ref a1), .val (.int p1), .val (.int p2), .val (.int p3), .val (.int j), s5] [(.int ((2 : Int32) * j)), (.ref b)])) _
  refine X2.iaload hx (j := ((2 : Int32) * j)) (v := (.int x)) (by rw [e2]; exact Ar.1) (State.isArrayOf_alike hZ.alike Ar.2.1) Ar.2.2 hin hat (g := (mkF m 91 #[.val (.ref a1), .val (.int p1), .val (.int p2), .val (.int p3), .val (.int j), s5] [(.int ((2 : Int32) * j)), (.ref b)])) rfl rfl (hb hby own_dprog_91_5_91) _ ?_
  show Steps p.tables e below (T2.setTop (mkF m 92 #[.val (.ref a1), .val (.int p1), .val (.int p2), .val (.int p3), .val (.int j), s5] [(.int x)])) _
  refine XS.iloadN X2.here hx rfl (hb hby own_dprog_91_5_92) rfl ?_
  show Steps p.tables e below (T2.setTop (mkF m 93 #[.val (.ref a1), .val (.int p1), .val (.int p2), .val (.int p3), .val (.int j), s5] [(.int p3), (.int x)])) _
  refine XS.icmpNo X2.here hx rfl (hb hby own_dprog_91_5_93) rfl (flt hc).2.2.1 ?_
  show Steps p.tables e below (T2.setTop (mkF m 96 #[.val (.ref a1), .val (.int p1), .val (.int p2), .val (.int p3), .val (.int j), s5] [])) _
  refine XS.iconst X2.here hx rfl (hb hby own_dprog_91_5_96) ?_
  show Steps p.tables e below (T2.setTop (mkF m 97 #[.val (.ref a1), .val (.int p1), .val (.int p2), .val (.int p3), .val (.int j), s5] [(.int (2 : Int32))])) _
  refine XS.iload X2.here hx rfl (hb hby own_dprog_91_5_97) rfl ?_
  show Steps p.tables e below (T2.setTop (mkF m 99 #[.val (.ref a1), .val (.int p1), .val (.int p2), .val (.int p3), .val (.int j), s5] [(.int j), (.int (2 : Int32))])) _
  refine XS.imul X2.here hx rfl (hb hby own_dprog_91_5_99) rfl ?_
  show Steps p.tables e below (T2.setTop (mkF m 100 #[.val (.ref a1), .val (.int p1), .val (.int p2), .val (.int p3), .val (.int j), s5] [(.int ((2 : Int32) * j))])) _
  refine XS.goto X2.here hx rfl (pc0 := 100) (pc' := 109) rfl (hb hby own_dprog_91_5_100) (by decide) (by decide) ?_
  show Steps p.tables e below (T2.setTop (mkF m 109 #[.val (.ref a1), .val (.int p1), .val (.int p2), .val (.int p3), .val (.int j), s5] [(.int ((2 : Int32) * j))])) _
  refine XS.istore X2.here hx rfl (hb hby own_dprog_91_5_109) rfl (l' := #[.val (.ref a1), .val (.int p1), .val (.int p2), .val (.int p3), .val (.int ((2 : Int32) * j)), s5]) rfl ?_
  show Steps p.tables e below (T2.setTop (mkF m 111 #[.val (.ref a1), .val (.int p1), .val (.int p2), .val (.int p3), .val (.int ((2 : Int32) * j)), s5] [])) _
  refine XS.goto X2.here hx rfl (pc0 := 111) (pc' := 74) rfl (hb hby own_dprog_91_5_111) (by decide) (by decide) ?_
  exact kt
set_option maxRecDepth 65536 in
set_option maxHeartbeats 40000000 in
theorem own_de3 {p : Program} {l : Launch} {e : Env} {R : Room} {s : State} {m : MethodId} {args : Array Value} {below : List Frame} {meth : Method} {c : Code} {T0 : State} {locs : List Loc} {cells slots : Nat} {Z : State} {a0 : Array Value} {h0 : Heap} (a1 : Addr) (p1 p2 p3 j : Int32) (s5 : Slot) (lv : Int32)
    (X0 : Stand p l e R s m args below meth c T0 locs cells slots) (hx : p.tables.exec = Jvm.exec) (hZ : Z.Warmed39 s.vm) (hw : ∀ d ∈ tables_1, d.before a0 Z = true) (hby : c.code = prog_91_method_5_code) (hml : c.maxLocals = 6) (hown : s.vm.findClass "com/example/unknot/unknot/sp/MinTree" = some m.cls) (e0 : T0.heap = h0) (hj : ¬ j < lv) (F1 : Fld Z h0 a1 "com/example/unknot/unknot/sp/MinTree" "leaves" "I" (.int lv))  :
    ∃ T' : State, Stand p l e R s m args below meth c T' locs cells slots ∧ T'.heap = h0 ∧ ∀ target, Steps p.tables e below (T'.setTop (mkF m 114 #[.val (.ref a1), .val (.int p1), .val (.int p2), .val (.int p3), .val (.int j), s5] [])) target → Steps p.tables e below (T0.setTop (mkF m 74 #[.val (.ref a1), .val (.int p1), .val (.int p2), .val (.int p3), .val (.int j), s5] [])) target := by
  obtain ⟨T1, X1, e1, st1⟩ := getF X0 hx hZ hown (host := "") (Or.inl (hw _ (List.mem_of_getElem? (i := 9) rfl))) Via.refl e0 F1 (g := (mkF m 77 #[.val (.ref a1), .val (.int p1), .val (.int p2), .val (.int p3), .val (.int j), s5] [(.ref a1), (.int j)])) rfl rfl (hb hby own_dprog_91_5_77)
  refine ⟨T1, X1, e1, fun target kt => ?_⟩
  show Steps p.tables e below (T0.setTop (mkF m 74 #[.val (.ref a1), .val (.int p1), .val (.int p2), .val (.int p3), .val (.int j), s5] [])) _
  refine XS.iload X0.here hx rfl (hb hby own_dprog_91_5_74) rfl ?_
  show Steps p.tables e below (T0.setTop (mkF m 76 #[.val (.ref a1), .val (.int p1), .val (.int p2), .val (.int p3), .val (.int j), s5] [(.int j)])) _
  refine XS.aloadN X0.here hx rfl (hb hby own_dprog_91_5_76) rfl rfl ?_
  show Steps p.tables e below (T0.setTop (mkF m 77 #[.val (.ref a1), .val (.int p1), .val (.int p2), .val (.int p3), .val (.int j), s5] [(.ref a1), (.int j)])) _
  refine st1 _ ?_
  show Steps p.tables e below (T1.setTop (mkF m 80 #[.val (.ref a1), .val (.int p1), .val (.int p2), .val (.int p3), .val (.int j), s5] [(.int lv), (.int j)])) _
  refine XS.icmpYes X1.here hx rfl (pc0 := 80) (pc' := 114) rfl (hb hby own_dprog_91_5_80) rfl (flt hj).2.1 (by decide) (by decide) ?_
  exact kt
theorem own_strloop {p : Program} {l : Launch} {e : Env} {R : Room} {s : State} {m : MethodId} {args : Array Value} {below : List Frame} {meth : Method} {c : Code} {Z : State} {a0 : Array Value} {cells slots : Nat} {locs : List Loc} {h0 : Heap} (a1 : Addr) (p1 p2 p3 : Int32) (s5 : Slot) (hx : p.tables.exec = Jvm.exec) (hZ : Z.Warmed39 s.vm) (hw : ∀ d ∈ tables_1, d.before a0 Z = true) (hby : c.code = prog_91_method_5_code) (hml : c.maxLocals = 6) (hown : s.vm.findClass "com/example/unknot/unknot/sp/MinTree" = some m.cls) {T0 : State} (X0 : Stand p l e R s m args below meth c T0 locs cells slots) (e0 : T0.heap = h0) (target : State) :
    ∀ (k j : Nat), j < 2 ^ k → j < 16 → Steps p.tables e below (T0.setTop (mkF m 15 #[.val (.ref a1), .val (.int p1), .val (.int p2), .val (.int p3), .val (.int (Int32.ofNat (if own_strip k j = 0 then 0 else own_strip k j + 1))), s5] [])) target → Steps p.tables e below (T0.setTop (mkF m 31 #[.val (.ref a1), .val (.int p1), .val (.int p2), .val (.int p3), .val (.int (Int32.ofNat j)), s5] [])) target := by
  intro k
  induction k with
  | zero =>
    intro j hj _ kt
    obtain rfl : j = 0 := by omega
    exact own_st2 a1 p1 p2 p3 _ s5 X0 hx hZ hw hby hml hown e0 (by decide) (by decide) target kt
  | succ k ih =>
    intro j hj hj16 kt
    have q := own_one17 ⟨j, by omega⟩
    have qm := own_one17 ⟨j % 2, by omega⟩
    simp only at q qm
    unfold own_strip at kt
    by_cases ho : j % 2 = 1
    · rw [if_pos ho] at kt
      refine own_st1 a1 p1 p2 p3 _ s5 X0 hx hZ hw hby hml hown e0 (by rw [q.2.2.2.1, ho]; decide) target ?_
      rw [q.2.2.1]
      exact ih (j / 2) (by omega) (by omega) kt
    · rw [if_neg ho] at kt
      have hno : ¬ Int32.ofNat j % (2 : Int32) = (1 : Int32) := by rw [q.2.2.2.1]; exact fun z => ho (qm.2.2.2.2.2.2.2.2.mp z)
      by_cases hz : j = 0
      · rw [if_pos hz] at kt
        exact own_st2 a1 p1 p2 p3 _ s5 X0 hx hZ hw hby hml hown e0 hno (q.2.2.2.2.2.2.2.1.mpr hz) target kt
      · rw [if_neg hz] at kt
        refine own_st3 a1 p1 p2 p3 _ s5 X0 hx hZ hw hby hml hown e0 hno (fun z => hz (q.2.2.2.2.2.2.2.1.mp z)) target ?_
        rw [q.1]
        exact kt
theorem own_oloop {p : Program} {l : Launch} {e : Env} {R : Room} {s : State} {m : MethodId} {args : Array Value} {below : List Frame} {meth : Method} {c : Code} {Z : State} {a0 : Array Value} {cells slots : Nat} {locs : List Loc} {h0 : Heap} (a1 : Addr) (p1 p2 p3 : Int32) (s5 : Slot) (hx : p.tables.exec = Jvm.exec) (hZ : Z.Warmed39 s.vm) (hw : ∀ d ∈ tables_1, d.before a0 Z = true) (hby : c.code = prog_91_method_5_code) (hml : c.maxLocals = 6) (hown : s.vm.findClass "com/example/unknot/unknot/sp/MinTree" = some m.cls) (b : Addr) (kc : ClassId) (lv : Nat) (vs : List Int32) (hlv : lv = 1 ∨ lv = 2 ∨ lv = 4 ∨ lv = 8) (Tr : own_Tree Z h0 a1 b kc lv vs) :
    ∀ (k j : Nat) (T0 : State), Stand p l e R s m args below meth c T0 locs cells slots → T0.heap = h0 → j < 2 * lv → own_iter k j = 0 →
    ∃ T' : State, Stand p l e R s m args below meth c T' locs cells slots ∧ T'.heap = h0 ∧ ∀ target, Steps p.tables e below (T'.setTop (mkF m 66 #[.val (.ref a1), .val (.int p1), .val (.int p2), .val (.int p3), .val (.int (Int32.ofNat (own_upw (own_hitf vs p3) k j))), s5] [])) target → Steps p.tables e below (T0.setTop (mkF m 15 #[.val (.ref a1), .val (.int p1), .val (.int p2), .val (.int p3), .val (.int (Int32.ofNat j)), s5] [])) target := by
  intro k
  induction k with
  | zero =>
    intro j T0 X0 e0 hj hit
    obtain rfl : j = 0 := hit
    exact ⟨T0, X0, e0, own_ou3 a1 p1 p2 p3 (Int32.ofNat 0) s5 X0 hx hZ hw hby hml hown e0 (by decide)⟩
  | succ k ih =>
    intro j T0 X0 e0 hj hit
    have q := own_one17 ⟨j, by omega⟩
    simp only at q
    unfold own_upw
    by_cases hz : j = 0
    · rw [if_pos hz]
      subst hz
      exact ⟨T0, X0, e0, own_ou3 a1 p1 p2 p3 (Int32.ofNat 0) s5 X0 hx hZ hw hby hml hown e0 (by decide)⟩
    · rw [if_neg hz]
      have hz' : ¬ Int32.ofNat j = (0 : Int32) := fun z => hz (q.2.2.2.2.2.2.2.1.mp z)
      obtain ⟨cl, Ar, ck, S, Ng, H, Ft, rd⟩ := own_read Tr (by omega)
      have r := rd j hj
      by_cases hc : p3 < vs.getD j 0
      · rw [if_neg (by unfold own_hitf; simpa using hc)]
        obtain ⟨T1, Xe1, e1, st1⟩ := own_ou1 a1 p1 p2 p3 (Int32.ofNat j) s5 b cl (vs.getD j 0) X0 hx hZ hw hby hml hown e0 hz' hc Tr.2.2.1 Ar r.1 r.2
        obtain ⟨T2, X2, e2, st2⟩ := ih (own_next j) T1 Xe1 e1 (own_stripB ⟨lv, by omega⟩ hlv ⟨j, by omega⟩ hj) hit
        exact ⟨T2, X2, e2, fun target kt => st1 target (own_strloop a1 p1 p2 p3 s5 hx hZ hw hby hml hown Xe1 e1 target 4 j (by omega) (by omega) (st2 target kt))⟩
      · rw [if_pos (by unfold own_hitf; simpa using hc)]
        obtain ⟨T1, Xe1, e1, st1⟩ := own_ou2 a1 p1 p2 p3 (Int32.ofNat j) s5 b cl (vs.getD j 0) X0 hx hZ hw hby hml hown e0 hz' hc Tr.2.2.1 Ar r.1 r.2
        exact ⟨T1, Xe1, e1, st1⟩
theorem own_dloop {p : Program} {l : Launch} {e : Env} {R : Room} {s : State} {m : MethodId} {args : Array Value} {below : List Frame} {meth : Method} {c : Code} {Z : State} {a0 : Array Value} {cells slots : Nat} {locs : List Loc} {h0 : Heap} (a1 : Addr) (p1 p2 p3 : Int32) (s5 : Slot) (hx : p.tables.exec = Jvm.exec) (hZ : Z.Warmed39 s.vm) (hw : ∀ d ∈ tables_1, d.before a0 Z = true) (hby : c.code = prog_91_method_5_code) (hml : c.maxLocals = 6) (hown : s.vm.findClass "com/example/unknot/unknot/sp/MinTree" = some m.cls) (b : Addr) (kc : ClassId) (lv : Nat) (vs : List Int32) (hl : lv ≤ 8) (Tr : own_Tree Z h0 a1 b kc lv vs) :
    ∀ (k j : Nat) (T0 : State), Stand p l e R s m args below meth c T0 locs cells slots → T0.heap = h0 → j < 2 * lv → 1 ≤ j → lv ≤ j * 2 ^ k →
    ∃ T' : State, Stand p l e R s m args below meth c T' locs cells slots ∧ T'.heap = h0 ∧ (own_down (own_hitf vs p3) lv k j < 2 * lv ∧ lv ≤ own_down (own_hitf vs p3) lv k j) ∧ ∀ target, Steps p.tables e below (T'.setTop (mkF m 114 #[.val (.ref a1), .val (.int p1), .val (.int p2), .val (.int p3), .val (.int (Int32.ofNat (own_down (own_hitf vs p3) lv k j))), s5] [])) target → Steps p.tables e below (T0.setTop (mkF m 74 #[.val (.ref a1), .val (.int p1), .val (.int p2), .val (.int p3), .val (.int (Int32.ofNat j)), s5] [])) target := by
  intro k
  induction k with
  | zero =>
    intro j T0 X0 e0 hj h1 hk
    obtain ⟨T1, Xe1, e1, st1⟩ := own_de3 a1 p1 p2 p3 (Int32.ofNat j) s5 (Int32.ofNat lv) X0 hx hZ hw hby hml hown e0 (fun z => absurd ((own_lt17 ⟨j, by omega⟩ ⟨lv, by omega⟩).mp z) (by simp only; omega)) Tr.2.1
    exact ⟨T1, Xe1, e1, ⟨hj, by unfold own_down; omega⟩, st1⟩
  | succ k ih =>
    intro j T0 X0 e0 hj h1 hk
    unfold own_down
    by_cases hlt : j < lv
    · rw [if_pos hlt]
      have q2 := own_two j (by omega)
      have hlt' := (own_lt17 ⟨j, by omega⟩ ⟨lv, by omega⟩).mpr hlt
      obtain ⟨cl, Ar, ck, S, Ng, H, Ft, rd⟩ := own_read Tr hl
      have r := rd (2 * j) (by omega)
      rw [← q2.1] at r
      have hpow : lv ≤ (2 * j) * 2 ^ k := by rw [Nat.pow_succ] at hk; rw [Nat.mul_comm 2 j, Nat.mul_assoc, Nat.mul_comm 2]; exact hk
      by_cases hc : p3 < vs.getD (2 * j) 0
      · rw [if_neg (by unfold own_hitf; simpa using hc)]
        obtain ⟨T1, Xe1, e1, st1⟩ := own_de1 a1 p1 p2 p3 (Int32.ofNat j) s5 (Int32.ofNat lv) b cl (vs.getD (2 * j) 0) X0 hx hZ hw hby hml hown e0 hlt' hc Tr.2.1 Tr.2.2.1 Ar r.1 r.2
        obtain ⟨T2, X2, e2, hb2, st2⟩ := ih (2 * j + 1) T1 Xe1 e1 (by omega) (by omega) (Nat.le_trans hpow (Nat.mul_le_mul_right _ (by omega)))
        refine ⟨T2, X2, e2, hb2, fun target kt => st1 target ?_⟩
        rw [q2.2]
        exact st2 target kt
      · rw [if_pos (by unfold own_hitf; simpa using hc)]
        obtain ⟨T1, Xe1, e1, st1⟩ := own_de2 a1 p1 p2 p3 (Int32.ofNat j) s5 (Int32.ofNat lv) b cl (vs.getD (2 * j) 0) X0 hx hZ hw hby hml hown e0 hlt' hc Tr.2.1 Tr.2.2.1 Ar r.1 r.2
        obtain ⟨T2, X2, e2, hb2, st2⟩ := ih (2 * j) T1 Xe1 e1 (by omega) (by omega) hpow
        refine ⟨T2, X2, e2, hb2, fun target kt => st1 target ?_⟩
        rw [q2.1]
        exact st2 target kt
    · rw [if_neg hlt]
      obtain ⟨T1, Xe1, e1, st1⟩ := own_de3 a1 p1 p2 p3 (Int32.ofNat j) s5 (Int32.ofNat lv) X0 hx hZ hw hby hml hown e0 (fun z => hlt ((own_lt17 ⟨j, by omega⟩ ⟨lv, by omega⟩).mp z)) Tr.2.1
      exact ⟨T1, Xe1, e1, ⟨hj, by omega⟩, st1⟩
theorem own_nextB (lv : Nat) (hlv : lv = 1 ∨ lv = 2 ∨ lv = 4 ∨ lv = 8) (hit : Nat → Bool) : ∀ (k j : Nat), j < 2 * lv → own_upw hit k j < 2 * lv := by
  intro k
  induction k with
  | zero => intro j hj; exact hj
  | succ k ih =>
    intro j hj
    unfold own_upw
    split
    · omega
    · split
      · exact hj
      · exact ih _ (own_stripB ⟨lv, by omega⟩ hlv ⟨j, by omega⟩ hj)
theorem own_ef_fam (m : MethodId) (x0 : Addr) (x1 : Int32) (x2 : Int32) (x3 : Int32) : entryFrame m #[(.ref x0), (.int x1), (.int x2), (.int x3)] 6 = mkF m 0 #[.val (.ref x0), .val (.int x1), .val (.int x2), .val (.int x3), .unset, .unset] [] := by first | (simp [entryFrame, mkF, argsToLocals, Value.category]; done) | rfl
def Q_fam (Z : State) (a1 : Addr) (p1 : Int32) (p2 : Int32) (p3 : Int32) (b : Addr) (kc : ClassId) (lv : Nat) (f : Nat) (t : Nat) (vs : List Int32) (h0 : Heap) (n0 : Nat) (v : Option Value) (h : Heap) (L : List Loc) : Prop := v = some (.int (own_fam (own_hitf vs p3) lv f t)) ∧ Fr n0 L ∧ h = h0
set_option maxRecDepth 65536 in
set_option maxHeartbeats 40000000 in
theorem rm_fam (l : Launch) (Z : State) (a0 : Array Value) (hw : ∀ d ∈ tables_1, d.before a0 Z = true) (ws : List Jvm.Cond) (a1 : Addr) (p1 : Int32) (p2 : Int32) (p3 : Int32) (b : Addr) (kc : ClassId) (lv : Nat) (f : Nat) (t : Nat) (vs : List Int32) (h0 : Heap) (n0 : Nat) (Z0 : n0 ≤ h0.size) (hp1 : p1 = Int32.ofNat f) (hp2 : p2 = Int32.ofNat t) (hlv : lv = 1 ∨ lv = 2 ∨ lv = 4 ∨ lv = 8) (ht : t ≤ lv) (hf : f ≤ lv) (Tr : own_Tree Z h0 a1 b kc lv vs) :
    MetFree l (⟨"com/example/unknot/unknot/sp/MinTree", "firstAtMost", "(III)I"⟩ : MethodName) (head1 (Jvm.Cond.code (⟨"com/example/unknot/unknot/sp/MinTree", "firstAtMost", "(III)I"⟩ : MethodName) prog_91_method_5_code 6 (some .int) :: ws) ({ frames := 0, cells := 0, slots := 0, locals := 0 } : Room)) (fun a U => a = #[(.ref a1), (.int p1), (.int p2), (.int p3)] ∧ Z.Warmed39 U.vm ∧ U.heap = h0) (fun _ _ _ _ _ => True) (fun _ U o U' => ∃ v L, o = .returned v ∧ Q_fam Z a1 p1 p2 p3 b kc lv f t vs h0 n0 v U'.heap L ∧ FrameEnd U o U' L ({ frames := 0, cells := 0, slots := 0, locals := 0 } : Room).cells ({ frames := 0, cells := 0, slots := 0, locals := 0 } : Room).slots) := by
  refine MetFree.of_bodySF (plainFor_of_name own_pn_com_example_unknot_unknot_sp_MinTree) hisR ?_
  intro p e s m args below meth c s₁ Bd hml0 hP hK
  obtain ⟨rfl, hZ, hh⟩ := hP
  have hx := Bd.exec
  have hby := Bd.bytes
  have hml : c.maxLocals = 6 := hml0
  have hown : s.vm.findClass "com/example/unknot/unknot/sp/MinTree" = some m.cls := findClass_of_methodNamed Bd.named
  have hnm := (name_of_methodNamed Bd.named Bd.method).1
  have X0 : Stand p l e ({ frames := 0, cells := 0, slots := 0, locals := 0 } : Room) s m #[(.ref a1), (.int p1), (.int p2), (.int p3)] below meth c s₁ [] 0 0 := Stand.of_body Bd
  have e0 : s₁.heap = h0 := by rw [← hh, Bd.state]; rfl
  have N0 := Fr.nil n0
  have pre0 : ∀ t, Steps p.tables e below (s₁.setTop (mkF m 0 #[.val (.ref a1), .val (.int p1), .val (.int p2), .val (.int p3), .unset, .unset] [])) t → Steps p.tables e below (s₁.setTop (entryFrame m #[(.ref a1), (.int p1), (.int p2), (.int p3)] 6)) t := fun t k => castTop (own_ef_fam m a1 p1 p2 p3) k
  have hlt : (p1 < p2) ↔ f < t := by rw [hp1, hp2]; exact own_lt17 ⟨f, by omega⟩ ⟨t, by omega⟩
  by_cases hft : f < t
  · have hadd : Int32.ofNat lv + p1 = Int32.ofNat (lv + f) := by rw [hp1]; exact own_add17 ⟨lv, by omega⟩ ⟨f, by omega⟩
    obtain ⟨T1, X1, e1, st1⟩ := getF X0 hx hZ hown (host := "") (Or.inl (hw _ (List.mem_of_getElem? (i := 9) rfl))) Via.refl e0 Tr.2.1 (g := (mkF m 8 #[.val (.ref a1), .val (.int p1), .val (.int p2), .val (.int p3), .unset, .unset] [(.ref a1)])) rfl rfl (hb hby own_dprog_91_5_8)
    obtain ⟨T8, X8, e8, st8⟩ := own_oloop a1 p1 p2 p3 .unset hx hZ hw hby hml hown b kc lv vs hlv Tr 5 (lv + f) _ X1 e1 (by omega) (own_iterB ⟨lv + f, by omega⟩)
    have hub := own_nextB lv hlv (own_hitf vs p3) 5 (lv + f) (by omega)
    obtain ⟨u, hu⟩ : ∃ z, z = own_upw (own_hitf vs p3) 5 (lv + f) := ⟨_, rfl⟩
    rw [← hu] at st8 hub
    have qu := own_one17 ⟨u, by omega⟩
    simp only at qu
    by_cases huz : u = 0
    · obtain ⟨fs, hr, hrun, hended, hW, hsame⟩ := X8.leave (v := some (.int (-1 : Int32))) (fun h => by rw [Bd.returns] at h; cases h)
      refine ⟨_, _, pre0 _ ?_, hrun, hended, _, _, rfl, ?_, ⟨_, rfl⟩, hW, hsame.mono (by decide) (by decide)⟩
      · show Steps p.tables e below (s₁.setTop (mkF m 0 #[.val (.ref a1), .val (.int p1), .val (.int p2), .val (.int p3), .unset, .unset] [])) _
        refine XS.iloadN X0.here hx rfl (hb hby own_dprog_91_5_0) rfl ?_
        show Steps p.tables e below (s₁.setTop (mkF m 1 #[.val (.ref a1), .val (.int p1), .val (.int p2), .val (.int p3), .unset, .unset] [(.int p1)])) _
        refine XS.iloadN X0.here hx rfl (hb hby own_dprog_91_5_1) rfl ?_
        show Steps p.tables e below (s₁.setTop (mkF m 2 #[.val (.ref a1), .val (.int p1), .val (.int p2), .val (.int p3), .unset, .unset] [(.int p2), (.int p1)])) _
        refine XS.icmpYes X0.here hx rfl (pc0 := 2) (pc' := 7) rfl (hb hby own_dprog_91_5_2) rfl (tlt (hlt.mpr hft)).1 (by decide) (by decide) ?_
        show Steps p.tables e below (s₁.setTop (mkF m 7 #[.val (.ref a1), .val (.int p1), .val (.int p2), .val (.int p3), .unset, .unset] [])) _
        refine XS.aloadN X0.here hx rfl (hb hby own_dprog_91_5_7) rfl rfl ?_
        show Steps p.tables e below (s₁.setTop (mkF m 8 #[.val (.ref a1), .val (.int p1), .val (.int p2), .val (.int p3), .unset, .unset] [(.ref a1)])) _
        refine st1 _ ?_
        show Steps p.tables e below (T1.setTop (mkF m 11 #[.val (.ref a1), .val (.int p1), .val (.int p2), .val (.int p3), .unset, .unset] [(.int (Int32.ofNat lv))])) _
        refine XS.iloadN X1.here hx rfl (hb hby own_dprog_91_5_11) rfl ?_
        show Steps p.tables e below (T1.setTop (mkF m 12 #[.val (.ref a1), .val (.int p1), .val (.int p2), .val (.int p3), .unset, .unset] [(.int p1), (.int (Int32.ofNat lv))])) _
        refine XS.iadd X1.here hx rfl (hb hby own_dprog_91_5_12) rfl ?_
        show Steps p.tables e below (T1.setTop (mkF m 13 #[.val (.ref a1), .val (.int p1), .val (.int p2), .val (.int p3), .unset, .unset] [(.int ((Int32.ofNat lv) + p1))])) _
        rw [hadd]
        show Steps p.tables e below (T1.setTop (mkF m 13 #[.val (.ref a1), .val (.int p1), .val (.int p2), .val (.int p3), .unset, .unset] [(.int (Int32.ofNat (lv + f)))])) _
        refine XS.istore X1.here hx rfl (hb hby own_dprog_91_5_13) rfl (l' := #[.val (.ref a1), .val (.int p1), .val (.int p2), .val (.int p3), .val (.int (Int32.ofNat (lv + f))), .unset]) rfl ?_
        show Steps p.tables e below (T1.setTop (mkF m 15 #[.val (.ref a1), .val (.int p1), .val (.int p2), .val (.int p3), .val (.int (Int32.ofNat (lv + f))), .unset] [])) _
        refine st8 _ ?_
        show Steps p.tables e below (T8.setTop (mkF m 66 #[.val (.ref a1), .val (.int p1), .val (.int p2), .val (.int p3), .val (.int (Int32.ofNat u)), .unset] [])) _
        refine XS.iconst X8.here hx rfl (hb hby own_dprog_91_5_66) ?_
        show Steps p.tables e below (T8.setTop (mkF m 67 #[.val (.ref a1), .val (.int p1), .val (.int p2), .val (.int p3), .val (.int (Int32.ofNat u)), .unset] [(.int (-1 : Int32))])) _
        refine XS.istore X8.here hx rfl (hb hby own_dprog_91_5_67) rfl (l' := #[.val (.ref a1), .val (.int p1), .val (.int p2), .val (.int p3), .val (.int (Int32.ofNat u)), .val (.int (-1 : Int32))]) rfl ?_
        show Steps p.tables e below (T8.setTop (mkF m 69 #[.val (.ref a1), .val (.int p1), .val (.int p2), .val (.int p3), .val (.int (Int32.ofNat u)), .val (.int (-1 : Int32))] [])) _
        refine XS.iload X8.here hx rfl (hb hby own_dprog_91_5_69) rfl ?_
        show Steps p.tables e below (T8.setTop (mkF m 71 #[.val (.ref a1), .val (.int p1), .val (.int p2), .val (.int p3), .val (.int (Int32.ofNat u)), .val (.int (-1 : Int32))] [(.int (Int32.ofNat u))])) _
        refine XS.ifYes X8.here hx rfl (pc0 := 71) (pc' := 138) rfl (hb hby own_dprog_91_5_71) rfl ((if0 _ _).trans (teq (qu.2.2.2.2.2.2.2.1.mpr huz)).1) (by decide) (by decide) ?_
        show Steps p.tables e below (T8.setTop (mkF m 138 #[.val (.ref a1), .val (.int p1), .val (.int p2), .val (.int p3), .val (.int (Int32.ofNat u)), .val (.int (-1 : Int32))] [])) _
        refine XS.iload X8.here hx rfl (hb hby own_dprog_91_5_138) rfl ?_
        show Steps p.tables e below (T8.setTop (mkF m 140 #[.val (.ref a1), .val (.int p1), .val (.int p2), .val (.int p3), .val (.int (Int32.ofNat u)), .val (.int (-1 : Int32))] [(.int (-1 : Int32))])) _
        exact retOut X8 hx Bd.returns rfl (Or.inl ⟨rfl, Or.inl rfl, _, rfl⟩) (hb hby own_dprog_91_5_140) hr
      · show Q_fam Z a1 p1 p2 p3 b kc lv f t vs h0 n0 _ T8.heap _
        rw [e8]
        exact ⟨(by unfold own_fam; rw [if_pos hft, ← hu, if_pos huz]), N0, rfl⟩
    · obtain ⟨T9, X9, e9, hb9, st9⟩ := own_dloop a1 p1 p2 p3 (.val (.int (-1 : Int32))) hx hZ hw hby hml hown b kc lv vs (by omega) Tr 4 u _ X8 e8 hub (by omega) (by omega)
      obtain ⟨w, hw9⟩ : ∃ z, z = own_down (own_hitf vs p3) lv 4 u := ⟨_, rfl⟩
      rw [← hw9] at st9 hb9
      have hsub : Int32.ofNat w - Int32.ofNat lv = Int32.ofNat (w - lv) := own_sub17 ⟨w, by omega⟩ ⟨lv, by omega⟩ hb9.2
      have hlt2 : (Int32.ofNat w - Int32.ofNat lv < p2) ↔ w - lv < t := by rw [hsub, hp2]; exact own_lt17 ⟨w - lv, by omega⟩ ⟨t, by omega⟩
      obtain ⟨T2, X2, e2, st2⟩ := getF X9 hx hZ hown (host := "") (Or.inl (hw _ (List.mem_of_getElem? (i := 9) rfl))) Via.refl e9 Tr.2.1 (g := (mkF m 117 #[.val (.ref a1), .val (.int p1), .val (.int p2), .val (.int p3), .val (.int (Int32.ofNat w)), .val (.int (-1 : Int32))] [(.ref a1), (.int (Int32.ofNat w))])) rfl rfl (hb hby own_dprog_91_5_117)
      by_cases hwt : w - lv < t
      · obtain ⟨T3, X3, e3, st3⟩ := getF X2 hx hZ hown (host := "") (Or.inl (hw _ (List.mem_of_getElem? (i := 9) rfl))) Via.refl e2 Tr.2.1 (g := (mkF m 128 #[.val (.ref a1), .val (.int p1), .val (.int p2), .val (.int p3), .val (.int (Int32.ofNat w)), .val (.int (-1 : Int32))] [(.ref a1), (.int (Int32.ofNat w))])) rfl rfl (hb hby own_dprog_91_5_128)
        obtain ⟨fs, hr, hrun, hended, hW, hsame⟩ := X3.leave (v := some (.int (Int32.ofNat w - Int32.ofNat lv))) (fun h => by rw [Bd.returns] at h; cases h)
        refine ⟨_, _, pre0 _ ?_, hrun, hended, _, _, rfl, ?_, ⟨_, rfl⟩, hW, hsame.mono (by decide) (by decide)⟩
        · show Steps p.tables e below (s₁.setTop (mkF m 0 #[.val (.ref a1), .val (.int p1), .val (.int p2), .val (.int p3), .unset, .unset] [])) _
          refine XS.iloadN X0.here hx rfl (hb hby own_dprog_91_5_0) rfl ?_
          show Steps p.tables e below (s₁.setTop (mkF m 1 #[.val (.ref a1), .val (.int p1), .val (.int p2), .val (.int p3), .unset, .unset] [(.int p1)])) _
          refine XS.iloadN X0.here hx rfl (hb hby own_dprog_91_5_1) rfl ?_
          show Steps p.tables e below (s₁.setTop (mkF m 2 #[.val (.ref a1), .val (.int p1), .val (.int p2), .val (.int p3), .unset, .unset] [(.int p2), (.int p1)])) _
          refine XS.icmpYes X0.here hx rfl (pc0 := 2) (pc' := 7) rfl (hb hby own_dprog_91_5_2) rfl (tlt (hlt.mpr hft)).1 (by decide) (by decide) ?_
          show Steps p.tables e below (s₁.setTop (mkF m 7 #[.val (.ref a1), .val (.int p1), .val (.int p2), .val (.int p3), .unset, .unset] [])) _
          refine XS.aloadN X0.here hx rfl (hb hby own_dprog_91_5_7) rfl rfl ?_
          show Steps p.tables e below (s₁.setTop (mkF m 8 #[.val (.ref a1), .val (.int p1), .val (.int p2), .val (.int p3), .unset, .unset] [(.ref a1)])) _
          refine st1 _ ?_
          show Steps p.tables e below (T1.setTop (mkF m 11 #[.val (.ref a1), .val (.int p1), .val (.int p2), .val (.int p3), .unset, .unset] [(.int (Int32.ofNat lv))])) _
          refine XS.iloadN X1.here hx rfl (hb hby own_dprog_91_5_11) rfl ?_
          show Steps p.tables e below (T1.setTop (mkF m 12 #[.val (.ref a1), .val (.int p1), .val (.int p2), .val (.int p3), .unset, .unset] [(.int p1), (.int (Int32.ofNat lv))])) _
          refine XS.iadd X1.here hx rfl (hb hby own_dprog_91_5_12) rfl ?_
          show Steps p.tables e below (T1.setTop (mkF m 13 #[.val (.ref a1), .val (.int p1), .val (.int p2), .val (.int p3), .unset, .unset] [(.int ((Int32.ofNat lv) + p1))])) _
          rw [hadd]
          show Steps p.tables e below (T1.setTop (mkF m 13 #[.val (.ref a1), .val (.int p1), .val (.int p2), .val (.int p3), .unset, .unset] [(.int (Int32.ofNat (lv + f)))])) _
          refine XS.istore X1.here hx rfl (hb hby own_dprog_91_5_13) rfl (l' := #[.val (.ref a1), .val (.int p1), .val (.int p2), .val (.int p3), .val (.int (Int32.ofNat (lv + f))), .unset]) rfl ?_
          show Steps p.tables e below (T1.setTop (mkF m 15 #[.val (.ref a1), .val (.int p1), .val (.int p2), .val (.int p3), .val (.int (Int32.ofNat (lv + f))), .unset] [])) _
          refine st8 _ ?_
          show Steps p.tables e below (T8.setTop (mkF m 66 #[.val (.ref a1), .val (.int p1), .val (.int p2), .val (.int p3), .val (.int (Int32.ofNat u)), .unset] [])) _
          refine XS.iconst X8.here hx rfl (hb hby own_dprog_91_5_66) ?_
          show Steps p.tables e below (T8.setTop (mkF m 67 #[.val (.ref a1), .val (.int p1), .val (.int p2), .val (.int p3), .val (.int (Int32.ofNat u)), .unset] [(.int (-1 : Int32))])) _
          refine XS.istore X8.here hx rfl (hb hby own_dprog_91_5_67) rfl (l' := #[.val (.ref a1), .val (.int p1), .val (.int p2), .val (.int p3), .val (.int (Int32.ofNat u)), .val (.int (-1 : Int32))]) rfl ?_
          show Steps p.tables e below (T8.setTop (mkF m 69 #[.val (.ref a1), .val (.int p1), .val (.int p2), .val (.int p3), .val (.int (Int32.ofNat u)), .val (.int (-1 : Int32))] [])) _
          refine XS.iload X8.here hx rfl (hb hby own_dprog_91_5_69) rfl ?_
          show Steps p.tables e below (T8.setTop (mkF m 71 #[.val (.ref a1), .val (.int p1), .val (.int p2), .val (.int p3), .val (.int (Int32.ofNat u)), .val (.int (-1 : Int32))] [(.int (Int32.ofNat u))])) _
          refine XS.ifNo X8.here hx rfl (hb hby own_dprog_91_5_71) rfl ((if0 _ _).trans (feq (fun z => huz (qu.2.2.2.2.2.2.2.1.mp z))).1) ?_
          show Steps p.tables e below (T8.setTop (mkF m 74 #[.val (.ref a1), .val (.int p1), .val (.int p2), .val (.int p3), .val (.int (Int32.ofNat u)), .val (.int (-1 : Int32))] [])) _
          refine st9 _ ?_
          show Steps p.tables e below (T9.setTop (mkF m 114 #[.val (.ref a1), .val (.int p1), .val (.int p2), .val (.int p3), .val (.int (Int32.ofNat w)), .val (.int (-1 : Int32))] [])) _
          refine XS.iload X9.here hx rfl (hb hby own_dprog_91_5_114) rfl ?_
          show Steps p.tables e below (T9.setTop (mkF m 116 #[.val (.ref a1), .val (.int p1), .val (.int p2), .val (.int p3), .val (.int (Int32.ofNat w)), .val (.int (-1 : Int32))] [(.int (Int32.ofNat w))])) _
          refine XS.aloadN X9.here hx rfl (hb hby own_dprog_91_5_116) rfl rfl ?_
          show Steps p.tables e below (T9.setTop (mkF m 117 #[.val (.ref a1), .val (.int p1), .val (.int p2), .val (.int p3), .val (.int (Int32.ofNat w)), .val (.int (-1 : Int32))] [(.ref a1), (.int (Int32.ofNat w))])) _
          refine st2 _ ?_
          show Steps p.tables e below (T2.setTop (mkF m 120 #[.val (.ref a1), .val (.int p1), .val (.int p2), .val (.int p3), .val (.int (Int32.ofNat w)), .val (.int (-1 : Int32))] [(.int (Int32.ofNat lv)), (.int (Int32.ofNat w))])) _
          refine XS.isub X2.here hx rfl (hb hby own_dprog_91_5_120) rfl ?_
          show Steps p.tables e below (T2.setTop (mkF m 121 #[.val (.ref a1), .val (.int p1), .val (.int p2), .val (.int p3), .val (.int (Int32.ofNat w)), .val (.int (-1 : Int32))] [(.int ((Int32.ofNat w) - (Int32.ofNat lv)))])) _
          refine XS.iloadN X2.here hx rfl (hb hby own_dprog_91_5_121) rfl ?_
          show Steps p.tables e below (T2.setTop (mkF m 122 #[.val (.ref a1), .val (.int p1), .val (.int p2), .val (.int p3), .val (.int (Int32.ofNat w)), .val (.int (-1 : Int32))] [(.int p2), (.int ((Int32.ofNat w) - (Int32.ofNat lv)))])) _
          refine XS.icmpNo X2.here hx rfl (hb hby own_dprog_91_5_122) rfl (tlt (hlt2.mpr hwt)).2.1 ?_
          show Steps p.tables e below (T2.setTop (mkF m 125 #[.val (.ref a1), .val (.int p1), .val (.int p2), .val (.int p3), .val (.int (Int32.ofNat w)), .val (.int (-1 : Int32))] [])) _
          refine XS.iload X2.here hx rfl (hb hby own_dprog_91_5_125) rfl ?_
          show Steps p.tables e below (T2.setTop (mkF m 127 #[.val (.ref a1), .val (.int p1), .val (.int p2), .val (.int p3), .val (.int (Int32.ofNat w)), .val (.int (-1 : Int32))] [(.int (Int32.ofNat w))])) _
          refine XS.aloadN X2.here hx rfl (hb hby own_dprog_91_5_127) rfl rfl ?_
          show Steps p.tables e below (T2.setTop (mkF m 128 #[.val (.ref a1), .val (.int p1), .val (.int p2), .val (.int p3), .val (.int (Int32.ofNat w)), .val (.int (-1 : Int32))] [(.ref a1), (.int (Int32.ofNat w))])) _
          refine st3 _ ?_
          show Steps p.tables e below (T3.setTop (mkF m 131 #[.val (.ref a1), .val (.int p1), .val (.int p2), .val (.int p3), .val (.int (Int32.ofNat w)), .val (.int (-1 : Int32))] [(.int (Int32.ofNat lv)), (.int (Int32.ofNat w))])) _
          refine XS.isub X3.here hx rfl (hb hby own_dprog_91_5_131) rfl ?_
          show Steps p.tables e below (T3.setTop (mkF m 132 #[.val (.ref a1), .val (.int p1), .val (.int p2), .val (.int p3), .val (.int (Int32.ofNat w)), .val (.int (-1 : Int32))] [(.int ((Int32.ofNat w) - (Int32.ofNat lv)))])) _
          refine XS.goto X3.here hx rfl (pc0 := 132) (pc' := 136) rfl (hb hby own_dprog_91_5_132) (by decide) (by decide) ?_
          show Steps p.tables e below (T3.setTop (mkF m 136 #[.val (.ref a1), .val (.int p1), .val (.int p2), .val (.int p3), .val (.int (Int32.ofNat w)), .val (.int (-1 : Int32))] [(.int ((Int32.ofNat w) - (Int32.ofNat lv)))])) _
          refine XS.istore X3.here hx rfl (hb hby own_dprog_91_5_136) rfl (l' := #[.val (.ref a1), .val (.int p1), .val (.int p2), .val (.int p3), .val (.int (Int32.ofNat w)), .val (.int ((Int32.ofNat w) - (Int32.ofNat lv)))]) rfl ?_
          show Steps p.tables e below (T3.setTop (mkF m 138 #[.val (.ref a1), .val (.int p1), .val (.int p2), .val (.int p3), .val (.int (Int32.ofNat w)), .val (.int ((Int32.ofNat w) - (Int32.ofNat lv)))] [])) _
          refine XS.iload X3.here hx rfl (hb hby own_dprog_91_5_138) rfl ?_
          show Steps p.tables e below (T3.setTop (mkF m 140 #[.val (.ref a1), .val (.int p1), .val (.int p2), .val (.int p3), .val (.int (Int32.ofNat w)), .val (.int ((Int32.ofNat w) - (Int32.ofNat lv)))] [(.int ((Int32.ofNat w) - (Int32.ofNat lv)))])) _
          exact retOut X3 hx Bd.returns rfl (Or.inl ⟨rfl, Or.inl rfl, _, rfl⟩) (hb hby own_dprog_91_5_140) hr
        · show Q_fam Z a1 p1 p2 p3 b kc lv f t vs h0 n0 _ T3.heap _
          rw [e3]
          exact ⟨(by unfold own_fam; rw [if_pos hft, ← hu, if_neg huz, ← hw9, if_pos hwt, hsub]), N0, rfl⟩
      · obtain ⟨fs, hr, hrun, hended, hW, hsame⟩ := X2.leave (v := some (.int (-1 : Int32))) (fun h => by rw [Bd.returns] at h; cases h)
        refine ⟨_, _, pre0 _ ?_, hrun, hended, _, _, rfl, ?_, ⟨_, rfl⟩, hW, hsame.mono (by decide) (by decide)⟩
        · show Steps p.tables e below (s₁.setTop (mkF m 0 #[.val (.ref a1), .val (.int p1), .val (.int p2), .val (.int p3), .unset, .unset] [])) _
          refine XS.iloadN X0.here hx rfl (hb hby own_dprog_91_5_0) rfl ?_
          show Steps p.tables e below (s₁.setTop (mkF m 1 #[.val (.ref a1), .val (.int p1), .val (.int p2), .val (.int p3), .unset, .unset] [(.int p1)])) _
          refine XS.iloadN X0.here hx rfl (hb hby own_dprog_91_5_1) rfl ?_
          show Steps p.tables e below (s₁.setTop (mkF m 2 #[.val (.ref a1), .val (.int p1), .val (.int p2), .val (.int p3), .unset, .unset] [(.int p2), (.int p1)])) _
          refine XS.icmpYes X0.here hx rfl (pc0 := 2) (pc' := 7) rfl (hb hby own_dprog_91_5_2) rfl (tlt (hlt.mpr hft)).1 (by decide) (by decide) ?_
          show Steps p.tables e below (s₁.setTop (mkF m 7 #[.val (.ref a1), .val (.int p1), .val (.int p2), .val (.int p3), .unset, .unset] [])) _
          refine XS.aloadN X0.here hx rfl (hb hby own_dprog_91_5_7) rfl rfl ?_
          show Steps p.tables e below (s₁.setTop (mkF m 8 #[.val (.ref a1), .val (.int p1), .val (.int p2), .val (.int p3), .unset, .unset] [(.ref a1)])) _
          refine st1 _ ?_
          show Steps p.tables e below (T1.setTop (mkF m 11 #[.val (.ref a1), .val (.int p1), .val (.int p2), .val (.int p3), .unset, .unset] [(.int (Int32.ofNat lv))])) _
          refine XS.iloadN X1.here hx rfl (hb hby own_dprog_91_5_11) rfl ?_
          show Steps p.tables e below (T1.setTop (mkF m 12 #[.val (.ref a1), .val (.int p1), .val (.int p2), .val (.int p3), .unset, .unset] [(.int p1), (.int (Int32.ofNat lv))])) _
          refine XS.iadd X1.here hx rfl (hb hby own_dprog_91_5_12) rfl ?_
          show Steps p.tables e below (T1.setTop (mkF m 13 #[.val (.ref a1), .val (.int p1), .val (.int p2), .val (.int p3), .unset, .unset] [(.int ((Int32.ofNat lv) + p1))])) _
          rw [hadd]
          show Steps p.tables e below (T1.setTop (mkF m 13 #[.val (.ref a1), .val (.int p1), .val (.int p2), .val (.int p3), .unset, .unset] [(.int (Int32.ofNat (lv + f)))])) _
          refine XS.istore X1.here hx rfl (hb hby own_dprog_91_5_13) rfl (l' := #[.val (.ref a1), .val (.int p1), .val (.int p2), .val (.int p3), .val (.int (Int32.ofNat (lv + f))), .unset]) rfl ?_
          show Steps p.tables e below (T1.setTop (mkF m 15 #[.val (.ref a1), .val (.int p1), .val (.int p2), .val (.int p3), .val (.int (Int32.ofNat (lv + f))), .unset] [])) _
          refine st8 _ ?_
          show Steps p.tables e below (T8.setTop (mkF m 66 #[.val (.ref a1), .val (.int p1), .val (.int p2), .val (.int p3), .val (.int (Int32.ofNat u)), .unset] [])) _
          refine XS.iconst X8.here hx rfl (hb hby own_dprog_91_5_66) ?_
          show Steps p.tables e below (T8.setTop (mkF m 67 #[.val (.ref a1), .val (.int p1), .val (.int p2), .val (.int p3), .val (.int (Int32.ofNat u)), .unset] [(.int (-1 : Int32))])) _
          refine XS.istore X8.here hx rfl (hb hby own_dprog_91_5_67) rfl (l' := #[.val (.ref a1), .val (.int p1), .val (.int p2), .val (.int p3), .val (.int (Int32.ofNat u)), .val (.int (-1 : Int32))]) rfl ?_
          show Steps p.tables e below (T8.setTop (mkF m 69 #[.val (.ref a1), .val (.int p1), .val (.int p2), .val (.int p3), .val (.int (Int32.ofNat u)), .val (.int (-1 : Int32))] [])) _
          refine XS.iload X8.here hx rfl (hb hby own_dprog_91_5_69) rfl ?_
          show Steps p.tables e below (T8.setTop (mkF m 71 #[.val (.ref a1), .val (.int p1), .val (.int p2), .val (.int p3), .val (.int (Int32.ofNat u)), .val (.int (-1 : Int32))] [(.int (Int32.ofNat u))])) _
          refine XS.ifNo X8.here hx rfl (hb hby own_dprog_91_5_71) rfl ((if0 _ _).trans (feq (fun z => huz (qu.2.2.2.2.2.2.2.1.mp z))).1) ?_
          show Steps p.tables e below (T8.setTop (mkF m 74 #[.val (.ref a1), .val (.int p1), .val (.int p2), .val (.int p3), .val (.int (Int32.ofNat u)), .val (.int (-1 : Int32))] [])) _
          refine st9 _ ?_
          show Steps p.tables e below (T9.setTop (mkF m 114 #[.val (.ref a1), .val (.int p1), .val (.int p2), .val (.int p3), .val (.int (Int32.ofNat w)), .val (.int (-1 : Int32))] [])) _
          refine XS.iload X9.here hx rfl (hb hby own_dprog_91_5_114) rfl ?_
          show Steps p.tables e below (T9.setTop (mkF m 116 #[.val (.ref a1), .val (.int p1), .val (.int p2), .val (.int p3), .val (.int (Int32.ofNat w)), .val (.int (-1 : Int32))] [(.int (Int32.ofNat w))])) _
          refine XS.aloadN X9.here hx rfl (hb hby own_dprog_91_5_116) rfl rfl ?_
          show Steps p.tables e below (T9.setTop (mkF m 117 #[.val (.ref a1), .val (.int p1), .val (.int p2), .val (.int p3), .val (.int (Int32.ofNat w)), .val (.int (-1 : Int32))] [(.ref a1), (.int (Int32.ofNat w))])) _
          refine st2 _ ?_
          show Steps p.tables e below (T2.setTop (mkF m 120 #[.val (.ref a1), .val (.int p1), .val (.int p2), .val (.int p3), .val (.int (Int32.ofNat w)), .val (.int (-1 : Int32))] [(.int (Int32.ofNat lv)), (.int (Int32.ofNat w))])) _
          refine XS.isub X2.here hx rfl (hb hby own_dprog_91_5_120) rfl ?_
          show Steps p.tables e below (T2.setTop (mkF m 121 #[.val (.ref a1), .val (.int p1), .val (.int p2), .val (.int p3), .val (.int (Int32.ofNat w)), .val (.int (-1 : Int32))] [(.int ((Int32.ofNat w) - (Int32.ofNat lv)))])) _
          refine XS.iloadN X2.here hx rfl (hb hby own_dprog_91_5_121) rfl ?_
          show Steps p.tables e below (T2.setTop (mkF m 122 #[.val (.ref a1), .val (.int p1), .val (.int p2), .val (.int p3), .val (.int (Int32.ofNat w)), .val (.int (-1 : Int32))] [(.int p2), (.int ((Int32.ofNat w) - (Int32.ofNat lv)))])) _
          refine XS.icmpYes X2.here hx rfl (pc0 := 122) (pc' := 135) rfl (hb hby own_dprog_91_5_122) rfl (flt (fun z => hwt (hlt2.mp z))).2.1 (by decide) (by decide) ?_
          show Steps p.tables e below (T2.setTop (mkF m 135 #[.val (.ref a1), .val (.int p1), .val (.int p2), .val (.int p3), .val (.int (Int32.ofNat w)), .val (.int (-1 : Int32))] [])) _
          refine XS.iconst X2.here hx rfl (hb hby own_dprog_91_5_135) ?_
          show Steps p.tables e below (T2.setTop (mkF m 136 #[.val (.ref a1), .val (.int p1), .val (.int p2), .val (.int p3), .val (.int (Int32.ofNat w)), .val (.int (-1 : Int32))] [(.int (-1 : Int32))])) _
          refine XS.istore X2.here hx rfl (hb hby own_dprog_91_5_136) rfl (l' := #[.val (.ref a1), .val (.int p1), .val (.int p2), .val (.int p3), .val (.int (Int32.ofNat w)), .val (.int (-1 : Int32))]) rfl ?_
          show Steps p.tables e below (T2.setTop (mkF m 138 #[.val (.ref a1), .val (.int p1), .val (.int p2), .val (.int p3), .val (.int (Int32.ofNat w)), .val (.int (-1 : Int32))] [])) _
          refine XS.iload X2.here hx rfl (hb hby own_dprog_91_5_138) rfl ?_
          show Steps p.tables e below (T2.setTop (mkF m 140 #[.val (.ref a1), .val (.int p1), .val (.int p2), .val (.int p3), .val (.int (Int32.ofNat w)), .val (.int (-1 : Int32))] [(.int (-1 : Int32))])) _
          exact retOut X2 hx Bd.returns rfl (Or.inl ⟨rfl, Or.inl rfl, _, rfl⟩) (hb hby own_dprog_91_5_140) hr
        · show Q_fam Z a1 p1 p2 p3 b kc lv f t vs h0 n0 _ T2.heap _
          rw [e2]
          exact ⟨(by unfold own_fam; rw [if_pos hft, ← hu, if_neg huz, ← hw9, if_neg hwt]), N0, rfl⟩
  · obtain ⟨fs, hr, hrun, hended, hW, hsame⟩ := X0.leave (v := some (.int (-1 : Int32))) (fun h => by rw [Bd.returns] at h; cases h)
    refine ⟨_, _, pre0 _ ?_, hrun, hended, _, _, rfl, ?_, ⟨_, rfl⟩, hW, hsame.mono (by decide) (by decide)⟩
    · show Steps p.tables e below (s₁.setTop (mkF m 0 #[.val (.ref a1), .val (.int p1), .val (.int p2), .val (.int p3), .unset, .unset] [])) _
      refine XS.iloadN X0.here hx rfl (hb hby own_dprog_91_5_0) rfl ?_
      show Steps p.tables e below (s₁.setTop (mkF m 1 #[.val (.ref a1), .val (.int p1), .val (.int p2), .val (.int p3), .unset, .unset] [(.int p1)])) _
      refine XS.iloadN X0.here hx rfl (hb hby own_dprog_91_5_1) rfl ?_
      show Steps p.tables e below (s₁.setTop (mkF m 2 #[.val (.ref a1), .val (.int p1), .val (.int p2), .val (.int p3), .unset, .unset] [(.int p2), (.int p1)])) _
      refine XS.icmpNo X0.here hx rfl (hb hby own_dprog_91_5_2) rfl (flt (fun z => hft (hlt.mp z))).1 ?_
      show Steps p.tables e below (s₁.setTop (mkF m 5 #[.val (.ref a1), .val (.int p1), .val (.int p2), .val (.int p3), .unset, .unset] [])) _
      refine XS.iconst X0.here hx rfl (hb hby own_dprog_91_5_5) ?_
      show Steps p.tables e below (s₁.setTop (mkF m 6 #[.val (.ref a1), .val (.int p1), .val (.int p2), .val (.int p3), .unset, .unset] [(.int (-1 : Int32))])) _
      exact retOut X0 hx Bd.returns rfl (Or.inl ⟨rfl, Or.inl rfl, _, rfl⟩) (hb hby own_dprog_91_5_6) hr
    · show Q_fam Z a1 p1 p2 p3 b kc lv f t vs h0 n0 _ s₁.heap _
      rw [e0]
      exact ⟨(by unfold own_fam; rw [if_neg hft]), N0, rfl⟩
def own_h (i v f t x : Int32) : Int32 := if i < f then 0 else if i < t then (if x < v then 0 else 1) else 0
theorem own_dmethod_3_0 : decode method_3_code 0 = .ok (.iload_n 2, 1) := by decide +kernel
theorem own_dmethod_3_1 : decode method_3_code 1 = .ok (.iload_n 0, 1) := by decide +kernel
theorem own_dmethod_3_2 : decode method_3_code 2 = .ok (.if_icmp .gt 18, 3) := by decide +kernel
theorem own_dmethod_3_5 : decode method_3_code 5 = .ok (.iload_n 0, 1) := by decide +kernel
theorem own_dmethod_3_6 : decode method_3_code 6 = .ok (.iload_n 3, 1) := by decide +kernel
theorem own_dmethod_3_7 : decode method_3_code 7 = .ok (.if_icmp .ge 13, 3) := by decide +kernel
theorem own_dmethod_3_10 : decode method_3_code 10 = .ok (.iload_n 1, 1) := by decide +kernel
theorem own_dmethod_3_11 : decode method_3_code 11 = .ok (.iload 4, 2) := by decide +kernel
theorem own_dmethod_3_13 : decode method_3_code 13 = .ok (.if_icmp .gt 7, 3) := by decide +kernel
theorem own_dmethod_3_16 : decode method_3_code 16 = .ok (.iconst 1, 1) := by decide +kernel
theorem own_dmethod_3_17 : decode method_3_code 17 = .ok (.goto 4, 3) := by decide +kernel
theorem own_dmethod_3_20 : decode method_3_code 20 = .ok (.iconst 0, 1) := by decide +kernel
theorem own_dmethod_3_21 : decode method_3_code 21 = .ok (.ireturn, 1) := by decide +kernel
theorem own_pn_com_example_unknot_unknot_sp_MinTreeFirstAtMostPinLaw : plainName "com/example/unknot/unknot/sp/MinTreeFirstAtMostPinLaw" = true := by first | (simp [plainName, overriddenIn]; done) | decide +kernel
theorem own_ef_hit (m : MethodId) (x0 : Int32) (x1 : Int32) (x2 : Int32) (x3 : Int32) (x4 : Int32) : entryFrame m #[(.int x0), (.int x1), (.int x2), (.int x3), (.int x4)] 5 = mkF m 0 #[.val (.int x0), .val (.int x1), .val (.int x2), .val (.int x3), .val (.int x4)] [] := by first | (simp [entryFrame, mkF, argsToLocals, Value.category]; done) | rfl
def Q_hit (Z : State) (p1 : Int32) (p2 : Int32) (p3 : Int32) (p4 : Int32) (p5 : Int32) (h0 : Heap) (n0 : Nat) (v : Option Value) (h : Heap) (L : List Loc) : Prop := v = some (.int (own_h p1 p2 p3 p4 p5)) ∧ Fr n0 L ∧ h = h0
set_option maxRecDepth 65536 in
set_option maxHeartbeats 40000000 in
theorem rm_hit (l : Launch) (Z : State) (a0 : Array Value) (hw : ∀ d ∈ tables_1, d.before a0 Z = true) (ws : List Jvm.Cond) (p1 : Int32) (p2 : Int32) (p3 : Int32) (p4 : Int32) (p5 : Int32) (h0 : Heap) (n0 : Nat) (Z0 : n0 ≤ h0.size)  :
    MetFree l (⟨"com/example/unknot/unknot/sp/MinTreeFirstAtMostPinLaw", "hit", "(IIIII)Z"⟩ : MethodName) (head1 (Jvm.Cond.code (⟨"com/example/unknot/unknot/sp/MinTreeFirstAtMostPinLaw", "hit", "(IIIII)Z"⟩ : MethodName) method_3_code 5 (some .boolean) :: ws) ({ frames := 0, cells := 0, slots := 0, locals := 0 } : Room)) (fun a U => a = #[(.int p1), (.int p2), (.int p3), (.int p4), (.int p5)] ∧ Z.Warmed39 U.vm ∧ U.heap = h0) (fun _ _ _ _ _ => True) (fun _ U o U' => ∃ v L, o = .returned v ∧ Q_hit Z p1 p2 p3 p4 p5 h0 n0 v U'.heap L ∧ FrameEnd U o U' L ({ frames := 0, cells := 0, slots := 0, locals := 0 } : Room).cells ({ frames := 0, cells := 0, slots := 0, locals := 0 } : Room).slots) := by
  refine MetFree.of_bodySF (plainFor_of_name own_pn_com_example_unknot_unknot_sp_MinTreeFirstAtMostPinLaw) hisR ?_
  intro p e s m args below meth c s₁ Bd hml0 hP hK
  obtain ⟨rfl, hZ, hh⟩ := hP
  have hx := Bd.exec
  have hby := Bd.bytes
  have hml : c.maxLocals = 5 := hml0
  have hown : s.vm.findClass "com/example/unknot/unknot/sp/MinTreeFirstAtMostPinLaw" = some m.cls := findClass_of_methodNamed Bd.named
  have hnm := (name_of_methodNamed Bd.named Bd.method).1
  have X0 : Stand p l e ({ frames := 0, cells := 0, slots := 0, locals := 0 } : Room) s m #[(.int p1), (.int p2), (.int p3), (.int p4), (.int p5)] below meth c s₁ [] 0 0 := Stand.of_body Bd
  have e0 : s₁.heap = h0 := by rw [← hh, Bd.state]; rfl
  have N0 := Fr.nil n0
  have pre0 : ∀ t, Steps p.tables e below (s₁.setTop (mkF m 0 #[.val (.int p1), .val (.int p2), .val (.int p3), .val (.int p4), .val (.int p5)] [])) t → Steps p.tables e below (s₁.setTop (entryFrame m #[(.int p1), (.int p2), (.int p3), (.int p4), (.int p5)] 5)) t := fun t k => castTop (own_ef_hit m p1 p2 p3 p4 p5) k
  by_cases c1 : p1 < p3
  · obtain ⟨fs, hr, hrun, hended, hW, hsame⟩ := X0.leave (v := some (.int (0 : Int32))) (fun h => by rw [Bd.returns] at h; cases h)
    refine ⟨_, _, pre0 _ ?_, hrun, hended, _, _, rfl, ?_, ⟨_, rfl⟩, hW, hsame.mono (by decide) (by decide)⟩
    · show Steps p.tables e below (s₁.setTop (mkF m 0 #[.val (.int p1), .val (.int p2), .val (.int p3), .val (.int p4), .val (.int p5)] [])) _
      refine XS.iloadN X0.here hx rfl (hb hby own_dmethod_3_0) rfl ?_
      show Steps p.tables e below (s₁.setTop (mkF m 1 #[.val (.int p1), .val (.int p2), .val (.int p3), .val (.int p4), .val (.int p5)] [(.int p3)])) _
      refine XS.iloadN X0.here hx rfl (hb hby own_dmethod_3_1) rfl ?_
      show Steps p.tables e below (s₁.setTop (mkF m 2 #[.val (.int p1), .val (.int p2), .val (.int p3), .val (.int p4), .val (.int p5)] [(.int p1), (.int p3)])) _
      refine XS.icmpYes X0.here hx rfl (pc0 := 2) (pc' := 20) rfl (hb hby own_dmethod_3_2) rfl (tlt c1).2.2.1 (by decide) (by decide) ?_
      show Steps p.tables e below (s₁.setTop (mkF m 20 #[.val (.int p1), .val (.int p2), .val (.int p3), .val (.int p4), .val (.int p5)] [])) _
      refine XS.iconst X0.here hx rfl (hb hby own_dmethod_3_20) ?_
      show Steps p.tables e below (s₁.setTop (mkF m 21 #[.val (.int p1), .val (.int p2), .val (.int p3), .val (.int p4), .val (.int p5)] [(.int (0 : Int32))])) _
      exact retN X0 hx (t := .boolean) Bd.returns (by simp) (hb hby own_dmethod_3_21) hr
    · show Q_hit Z p1 p2 p3 p4 p5 h0 n0 _ s₁.heap _
      rw [e0]
      exact ⟨(by unfold own_h; rw [if_pos c1]), N0, rfl⟩
  · by_cases c2 : p1 < p4
    · by_cases c3 : p5 < p2
      · obtain ⟨fs, hr, hrun, hended, hW, hsame⟩ := X0.leave (v := some (.int (0 : Int32))) (fun h => by rw [Bd.returns] at h; cases h)
        refine ⟨_, _, pre0 _ ?_, hrun, hended, _, _, rfl, ?_, ⟨_, rfl⟩, hW, hsame.mono (by decide) (by decide)⟩
        · show Steps p.tables e below (s₁.setTop (mkF m 0 #[.val (.int p1), .val (.int p2), .val (.int p3), .val (.int p4), .val (.int p5)] [])) _
          refine XS.iloadN X0.here hx rfl (hb hby own_dmethod_3_0) rfl ?_
          show Steps p.tables e below (s₁.setTop (mkF m 1 #[.val (.int p1), .val (.int p2), .val (.int p3), .val (.int p4), .val (.int p5)] [(.int p3)])) _
          refine XS.iloadN X0.here hx rfl (hb hby own_dmethod_3_1) rfl ?_
          show Steps p.tables e below (s₁.setTop (mkF m 2 #[.val (.int p1), .val (.int p2), .val (.int p3), .val (.int p4), .val (.int p5)] [(.int p1), (.int p3)])) _
          refine XS.icmpNo X0.here hx rfl (hb hby own_dmethod_3_2) rfl (flt c1).2.2.1 ?_
          show Steps p.tables e below (s₁.setTop (mkF m 5 #[.val (.int p1), .val (.int p2), .val (.int p3), .val (.int p4), .val (.int p5)] [])) _
          refine XS.iloadN X0.here hx rfl (hb hby own_dmethod_3_5) rfl ?_
          show Steps p.tables e below (s₁.setTop (mkF m 6 #[.val (.int p1), .val (.int p2), .val (.int p3), .val (.int p4), .val (.int p5)] [(.int p1)])) _
          refine XS.iloadN X0.here hx rfl (hb hby own_dmethod_3_6) rfl ?_
          show Steps p.tables e below (s₁.setTop (mkF m 7 #[.val (.int p1), .val (.int p2), .val (.int p3), .val (.int p4), .val (.int p5)] [(.int p4), (.int p1)])) _
          refine XS.icmpNo X0.here hx rfl (hb hby own_dmethod_3_7) rfl (tlt c2).2.1 ?_
          show Steps p.tables e below (s₁.setTop (mkF m 10 #[.val (.int p1), .val (.int p2), .val (.int p3), .val (.int p4), .val (.int p5)] [])) _
          refine XS.iloadN X0.here hx rfl (hb hby own_dmethod_3_10) rfl ?_
          show Steps p.tables e below (s₁.setTop (mkF m 11 #[.val (.int p1), .val (.int p2), .val (.int p3), .val (.int p4), .val (.int p5)] [(.int p2)])) _
          refine XS.iload X0.here hx rfl (hb hby own_dmethod_3_11) rfl ?_
          show Steps p.tables e below (s₁.setTop (mkF m 13 #[.val (.int p1), .val (.int p2), .val (.int p3), .val (.int p4), .val (.int p5)] [(.int p5), (.int p2)])) _
          refine XS.icmpYes X0.here hx rfl (pc0 := 13) (pc' := 20) rfl (hb hby own_dmethod_3_13) rfl (tlt c3).2.2.1 (by decide) (by decide) ?_
          show Steps p.tables e below (s₁.setTop (mkF m 20 #[.val (.int p1), .val (.int p2), .val (.int p3), .val (.int p4), .val (.int p5)] [])) _
          refine XS.iconst X0.here hx rfl (hb hby own_dmethod_3_20) ?_
          show Steps p.tables e below (s₁.setTop (mkF m 21 #[.val (.int p1), .val (.int p2), .val (.int p3), .val (.int p4), .val (.int p5)] [(.int (0 : Int32))])) _
          exact retN X0 hx (t := .boolean) Bd.returns (by simp) (hb hby own_dmethod_3_21) hr
        · show Q_hit Z p1 p2 p3 p4 p5 h0 n0 _ s₁.heap _
          rw [e0]
          exact ⟨(by unfold own_h; rw [if_neg c1, if_pos c2, if_pos c3]), N0, rfl⟩
      · obtain ⟨fs, hr, hrun, hended, hW, hsame⟩ := X0.leave (v := some (.int (1 : Int32))) (fun h => by rw [Bd.returns] at h; cases h)
        refine ⟨_, _, pre0 _ ?_, hrun, hended, _, _, rfl, ?_, ⟨_, rfl⟩, hW, hsame.mono (by decide) (by decide)⟩
        · show Steps p.tables e below (s₁.setTop (mkF m 0 #[.val (.int p1), .val (.int p2), .val (.int p3), .val (.int p4), .val (.int p5)] [])) _
          refine XS.iloadN X0.here hx rfl (hb hby own_dmethod_3_0) rfl ?_
          show Steps p.tables e below (s₁.setTop (mkF m 1 #[.val (.int p1), .val (.int p2), .val (.int p3), .val (.int p4), .val (.int p5)] [(.int p3)])) _
          refine XS.iloadN X0.here hx rfl (hb hby own_dmethod_3_1) rfl ?_
          show Steps p.tables e below (s₁.setTop (mkF m 2 #[.val (.int p1), .val (.int p2), .val (.int p3), .val (.int p4), .val (.int p5)] [(.int p1), (.int p3)])) _
          refine XS.icmpNo X0.here hx rfl (hb hby own_dmethod_3_2) rfl (flt c1).2.2.1 ?_
          show Steps p.tables e below (s₁.setTop (mkF m 5 #[.val (.int p1), .val (.int p2), .val (.int p3), .val (.int p4), .val (.int p5)] [])) _
          refine XS.iloadN X0.here hx rfl (hb hby own_dmethod_3_5) rfl ?_
          show Steps p.tables e below (s₁.setTop (mkF m 6 #[.val (.int p1), .val (.int p2), .val (.int p3), .val (.int p4), .val (.int p5)] [(.int p1)])) _
          refine XS.iloadN X0.here hx rfl (hb hby own_dmethod_3_6) rfl ?_
          show Steps p.tables e below (s₁.setTop (mkF m 7 #[.val (.int p1), .val (.int p2), .val (.int p3), .val (.int p4), .val (.int p5)] [(.int p4), (.int p1)])) _
          refine XS.icmpNo X0.here hx rfl (hb hby own_dmethod_3_7) rfl (tlt c2).2.1 ?_
          show Steps p.tables e below (s₁.setTop (mkF m 10 #[.val (.int p1), .val (.int p2), .val (.int p3), .val (.int p4), .val (.int p5)] [])) _
          refine XS.iloadN X0.here hx rfl (hb hby own_dmethod_3_10) rfl ?_
          show Steps p.tables e below (s₁.setTop (mkF m 11 #[.val (.int p1), .val (.int p2), .val (.int p3), .val (.int p4), .val (.int p5)] [(.int p2)])) _
          refine XS.iload X0.here hx rfl (hb hby own_dmethod_3_11) rfl ?_
          show Steps p.tables e below (s₁.setTop (mkF m 13 #[.val (.int p1), .val (.int p2), .val (.int p3), .val (.int p4), .val (.int p5)] [(.int p5), (.int p2)])) _
          refine XS.icmpNo X0.here hx rfl (hb hby own_dmethod_3_13) rfl (flt c3).2.2.1 ?_
          show Steps p.tables e below (s₁.setTop (mkF m 16 #[.val (.int p1), .val (.int p2), .val (.int p3), .val (.int p4), .val (.int p5)] [])) _
          refine XS.iconst X0.here hx rfl (hb hby own_dmethod_3_16) ?_
          show Steps p.tables e below (s₁.setTop (mkF m 17 #[.val (.int p1), .val (.int p2), .val (.int p3), .val (.int p4), .val (.int p5)] [(.int (1 : Int32))])) _
          refine XS.goto X0.here hx rfl (pc0 := 17) (pc' := 21) rfl (hb hby own_dmethod_3_17) (by decide) (by decide) ?_
          show Steps p.tables e below (s₁.setTop (mkF m 21 #[.val (.int p1), .val (.int p2), .val (.int p3), .val (.int p4), .val (.int p5)] [(.int (1 : Int32))])) _
          exact retN X0 hx (t := .boolean) Bd.returns (by simp) (hb hby own_dmethod_3_21) hr
        · show Q_hit Z p1 p2 p3 p4 p5 h0 n0 _ s₁.heap _
          rw [e0]
          exact ⟨(by unfold own_h; rw [if_neg c1, if_pos c2, if_neg c3]), N0, rfl⟩
    · obtain ⟨fs, hr, hrun, hended, hW, hsame⟩ := X0.leave (v := some (.int (0 : Int32))) (fun h => by rw [Bd.returns] at h; cases h)
      refine ⟨_, _, pre0 _ ?_, hrun, hended, _, _, rfl, ?_, ⟨_, rfl⟩, hW, hsame.mono (by decide) (by decide)⟩
      · show Steps p.tables e below (s₁.setTop (mkF m 0 #[.val (.int p1), .val (.int p2), .val (.int p3), .val (.int p4), .val (.int p5)] [])) _
        refine XS.iloadN X0.here hx rfl (hb hby own_dmethod_3_0) rfl ?_
        show Steps p.tables e below (s₁.setTop (mkF m 1 #[.val (.int p1), .val (.int p2), .val (.int p3), .val (.int p4), .val (.int p5)] [(.int p3)])) _
        refine XS.iloadN X0.here hx rfl (hb hby own_dmethod_3_1) rfl ?_
        show Steps p.tables e below (s₁.setTop (mkF m 2 #[.val (.int p1), .val (.int p2), .val (.int p3), .val (.int p4), .val (.int p5)] [(.int p1), (.int p3)])) _
        refine XS.icmpNo X0.here hx rfl (hb hby own_dmethod_3_2) rfl (flt c1).2.2.1 ?_
        show Steps p.tables e below (s₁.setTop (mkF m 5 #[.val (.int p1), .val (.int p2), .val (.int p3), .val (.int p4), .val (.int p5)] [])) _
        refine XS.iloadN X0.here hx rfl (hb hby own_dmethod_3_5) rfl ?_
        show Steps p.tables e below (s₁.setTop (mkF m 6 #[.val (.int p1), .val (.int p2), .val (.int p3), .val (.int p4), .val (.int p5)] [(.int p1)])) _
        refine XS.iloadN X0.here hx rfl (hb hby own_dmethod_3_6) rfl ?_
        show Steps p.tables e below (s₁.setTop (mkF m 7 #[.val (.int p1), .val (.int p2), .val (.int p3), .val (.int p4), .val (.int p5)] [(.int p4), (.int p1)])) _
        refine XS.icmpYes X0.here hx rfl (pc0 := 7) (pc' := 20) rfl (hb hby own_dmethod_3_7) rfl (flt c2).2.1 (by decide) (by decide) ?_
        show Steps p.tables e below (s₁.setTop (mkF m 20 #[.val (.int p1), .val (.int p2), .val (.int p3), .val (.int p4), .val (.int p5)] [])) _
        refine XS.iconst X0.here hx rfl (hb hby own_dmethod_3_20) ?_
        show Steps p.tables e below (s₁.setTop (mkF m 21 #[.val (.int p1), .val (.int p2), .val (.int p3), .val (.int p4), .val (.int p5)] [(.int (0 : Int32))])) _
        exact retN X0 hx (t := .boolean) Bd.returns (by simp) (hb hby own_dmethod_3_21) hr
      · show Q_hit Z p1 p2 p3 p4 p5 h0 n0 _ s₁.heap _
        rw [e0]
        exact ⟨(by unfold own_h; rw [if_neg c1, if_neg c2]), N0, rfl⟩
def own_hv (x v : Int32) : Bool := decide (¬ x < v)
def own_want (a b c d e f t x : Int32) : Int32 := if own_h 0 a f t x = 0 then (if own_h 1 b f t x = 0 then (if own_h 2 c f t x = 0 then (if own_h 3 d f t x = 0 then (if own_h 4 e f t x = 0 then -1 else 4) else 3) else 2) else 1) else 0
def own_wantB (A B C D E : Bool) (f t : Nat) : Int32 := if decide (f ≤ 0) && (decide (0 < t) && A) then 0 else if decide (f ≤ 1) && (decide (1 < t) && B) then 1 else if decide (f ≤ 2) && (decide (2 < t) && C) then 2 else if decide (f ≤ 3) && (decide (3 < t) && D) then 3 else if decide (f ≤ 4) && (decide (4 < t) && E) then 4 else -1
theorem own_hz (i : Nat) (hi : i ≤ 5) (k : Int32) (hk : k = Int32.ofNat i) (v : Int32) (f t : Nat) (hf : f ≤ 5) (ht : t ≤ 5) (x : Int32) : own_h k v (Int32.ofNat f) (Int32.ofNat t) x = 0 ↔ ¬ (decide (f ≤ i) && (decide (i < t) && own_hv x v)) = true := by
  have h1 := own_lt17 ⟨i, by omega⟩ ⟨f, by omega⟩
  have h2 := own_lt17 ⟨i, by omega⟩ ⟨t, by omega⟩
  simp only at h1 h2
  unfold own_h own_hv
  rw [hk]
  simp only [h1, h2]
  by_cases a1 : i < f
  · have : ¬ f ≤ i := by omega
    simp [a1, this]
  · have a1' : f ≤ i := by omega
    by_cases a2 : i < t
    · by_cases a3 : x < v
      · simp [a1, a2, a3]
      · simp [a1, a1', a2, a3]
    · simp [a1, a2]
theorem own_wantE (a b c d e x : Int32) (f t : Nat) (hf : f ≤ 5) (ht : t ≤ 5) : own_want a b c d e (Int32.ofNat f) (Int32.ofNat t) x = own_wantB (own_hv x a) (own_hv x b) (own_hv x c) (own_hv x d) (own_hv x e) f t := by
  unfold own_want own_wantB
  simp only [own_hz 0 (by omega) 0 rfl a f t hf ht x, own_hz 1 (by omega) 1 rfl b f t hf ht x, own_hz 2 (by omega) 2 rfl c f t hf ht x, own_hz 3 (by omega) 3 rfl d f t hf ht x, own_hz 4 (by omega) 4 rfl e f t hf ht x]
  simp only [ite_not]
theorem own_hmin (x p q : Int32) : own_hv x (own_min p q) = (own_hv x p || own_hv x q) := by
  unfold own_hv own_min
  by_cases h3 : q < p
  · rw [if_pos h3]
    by_cases h2 : x < q
    · have h1 : x < p := Int32.lt_trans h2 h3
      simp [h1, h2]
    · simp [h2]
  · rw [if_neg h3]
    by_cases h1 : x < p
    · have h2 : x < q := Int32.lt_of_lt_of_le h1 (Int32.not_lt.mp h3)
      simp [h1, h2]
    · simp [h1]
theorem own_hitL (vs : List Int32) (x : Int32) : own_hitf vs x = fun j => (vs.map (own_hv x)).getD j (own_hv x 0) := by
  funext j
  unfold own_hitf own_hv
  rcases h : vs[j]? with _ | y <;> simp [List.getD, List.getElem?_map, h]
theorem own_n (x : Int32) : ∃ n, 1 ≤ n ∧ n ≤ 5 ∧ (1 : Int32) + ((x &&& (255 : Int32)) % (5 : Int32)) = Int32.ofNat n := by
  have h1 := c_mask x (255 : Int32) 8 (by decide) (by decide)
  have h2 := (c_irem (x &&& (255 : Int32)) (5 : Int32) 5 (by decide)).1 (by omega)
  have h3 := c_iadd (1 : Int32) ((x &&& (255 : Int32)) % (5 : Int32))
  have h4 := rng32 ((1 : Int32) + ((x &&& (255 : Int32)) % (5 : Int32)))
  have e1 : (1 : Int32).toInt = 1 := by decide
  rw [e1] at h3
  refine ⟨((1 : Int32) + ((x &&& (255 : Int32)) % (5 : Int32))).toInt.toNat, by omega, by omega, ?_⟩
  apply Int32.toInt_inj.mp
  rw [Int32.toInt_ofNat_of_lt (by omega)]
  omega
theorem own_mod (x : Int32) (y : Int32) (n : Nat) (hy : y.toInt = (n : Int) + 1) : ∃ f, f ≤ n ∧ (x &&& (255 : Int32)) % y = Int32.ofNat f := by
  have h1 := c_mask x (255 : Int32) 8 (by decide) (by decide)
  have h2 := (c_irem (x &&& (255 : Int32)) y ((n : Int) + 1) hy).1 (by omega)
  have h3 := rng32 y
  have h5 : 0 ≤ ((x &&& (255 : Int32)).toInt % ((n : Int) + 1)) := Int.emod_nonneg _ (by omega)
  have h6 : ((x &&& (255 : Int32)).toInt % ((n : Int) + 1)) < (n : Int) + 1 := Int.emod_lt_of_pos _ (by omega)
  refine ⟨((x &&& (255 : Int32)) % y).toInt.toNat, by omega, ?_⟩
  apply Int32.toInt_inj.mp
  rw [Int32.toInt_ofNat_of_lt (by omega)]
  omega
theorem own_dec1 : ∀ A B C D E M z : Bool, ∀ f t : Fin 2, own_fam (fun j => [M, A].getD j z) 1 f.1 t.1 = own_wantB A B C D E f.1 t.1 := by decide +kernel
theorem own_vr1 : (List.replicate (2 * own_lv 1) (2147483647 : Int32)) = [(2147483647 : Int32), (2147483647 : Int32)] := rfl
theorem own_vt1_0 (w u0 u1 : Int32) : own_set (own_lv 1) [u0, u1] 0 w = [u0, w] := rfl
theorem own_vs1 (a b c d e : Int32) : (own_set (own_lv 1) (List.replicate (2 * own_lv 1) (2147483647 : Int32)) 0 a) = [(2147483647 : Int32), a] := by
  rw [own_vr1, own_vt1_0]
theorem own_case1 (a b c d e x : Int32) (f t : Nat) (hf : f ≤ 1) (ht : t ≤ 1) : own_fam (own_hitf (own_set (own_lv 1) (List.replicate (2 * own_lv 1) (2147483647 : Int32)) 0 a) x) (own_lv 1) f t = own_want a b c d e (Int32.ofNat f) (Int32.ofNat t) x := by
  rw [own_wantE a b c d e x f t (by omega) (by omega), own_hitL, own_vs1 a b c d e]
  simp only [List.map_cons, List.map_nil, own_hmin]
  exact own_dec1 (own_hv x a) (own_hv x b) (own_hv x c) (own_hv x d) (own_hv x e) (own_hv x (2147483647 : Int32)) (own_hv x 0) ⟨f, by omega⟩ ⟨t, by omega⟩
theorem own_dec2 : ∀ A B C D E M z : Bool, ∀ f t : Fin 3, own_fam (fun j => [M, (A || B), A, B].getD j z) 2 f.1 t.1 = own_wantB A B C D E f.1 t.1 := by decide +kernel
theorem own_vr2 : (List.replicate (2 * own_lv 2) (2147483647 : Int32)) = [(2147483647 : Int32), (2147483647 : Int32), (2147483647 : Int32), (2147483647 : Int32)] := rfl
theorem own_vt2_0 (w u0 u1 u2 u3 : Int32) : own_set (own_lv 2) [u0, u1, u2, u3] 0 w = [u0, (own_min w u3), w, u3] := rfl
theorem own_vt2_1 (w u0 u1 u2 u3 : Int32) : own_set (own_lv 2) [u0, u1, u2, u3] 1 w = [u0, (own_min u2 w), u2, w] := rfl
theorem own_vs2 (a b c d e : Int32) : (own_set (own_lv 2) (own_set (own_lv 2) (List.replicate (2 * own_lv 2) (2147483647 : Int32)) 0 a) 1 b) = [(2147483647 : Int32), (own_min a b), a, b] := by
  rw [own_vr2, own_vt2_0, own_vt2_1]
theorem own_case2 (a b c d e x : Int32) (f t : Nat) (hf : f ≤ 2) (ht : t ≤ 2) : own_fam (own_hitf (own_set (own_lv 2) (own_set (own_lv 2) (List.replicate (2 * own_lv 2) (2147483647 : Int32)) 0 a) 1 b) x) (own_lv 2) f t = own_want a b c d e (Int32.ofNat f) (Int32.ofNat t) x := by
  rw [own_wantE a b c d e x f t (by omega) (by omega), own_hitL, own_vs2 a b c d e]
  simp only [List.map_cons, List.map_nil, own_hmin]
  exact own_dec2 (own_hv x a) (own_hv x b) (own_hv x c) (own_hv x d) (own_hv x e) (own_hv x (2147483647 : Int32)) (own_hv x 0) ⟨f, by omega⟩ ⟨t, by omega⟩
theorem own_dec3 : ∀ A B C D E M z : Bool, ∀ f t : Fin 4, own_fam (fun j => [M, ((A || B) || (C || M)), (A || B), (C || M), A, B, C, M].getD j z) 4 f.1 t.1 = own_wantB A B C D E f.1 t.1 := by decide +kernel
theorem own_vr3 : (List.replicate (2 * own_lv 3) (2147483647 : Int32)) = [(2147483647 : Int32), (2147483647 : Int32), (2147483647 : Int32), (2147483647 : Int32), (2147483647 : Int32), (2147483647 : Int32), (2147483647 : Int32), (2147483647 : Int32)] := rfl
theorem own_vt3_0 (w u0 u1 u2 u3 u4 u5 u6 u7 : Int32) : own_set (own_lv 3) [u0, u1, u2, u3, u4, u5, u6, u7] 0 w = [u0, (own_min (own_min w u5) u3), (own_min w u5), u3, w, u5, u6, u7] := rfl
theorem own_vt3_1 (w u0 u1 u2 u3 u4 u5 u6 u7 : Int32) : own_set (own_lv 3) [u0, u1, u2, u3, u4, u5, u6, u7] 1 w = [u0, (own_min (own_min u4 w) u3), (own_min u4 w), u3, u4, w, u6, u7] := rfl
theorem own_vt3_2 (w u0 u1 u2 u3 u4 u5 u6 u7 : Int32) : own_set (own_lv 3) [u0, u1, u2, u3, u4, u5, u6, u7] 2 w = [u0, (own_min u2 (own_min w u7)), u2, (own_min w u7), u4, u5, w, u7] := rfl
theorem own_vs3 (a b c d e : Int32) : (own_set (own_lv 3) (own_set (own_lv 3) (own_set (own_lv 3) (List.replicate (2 * own_lv 3) (2147483647 : Int32)) 0 a) 1 b) 2 c) = [(2147483647 : Int32), (own_min (own_min a b) (own_min c (2147483647 : Int32))), (own_min a b), (own_min c (2147483647 : Int32)), a, b, c, (2147483647 : Int32)] := by
  rw [own_vr3, own_vt3_0, own_vt3_1, own_vt3_2]
theorem own_case3 (a b c d e x : Int32) (f t : Nat) (hf : f ≤ 3) (ht : t ≤ 3) : own_fam (own_hitf (own_set (own_lv 3) (own_set (own_lv 3) (own_set (own_lv 3) (List.replicate (2 * own_lv 3) (2147483647 : Int32)) 0 a) 1 b) 2 c) x) (own_lv 3) f t = own_want a b c d e (Int32.ofNat f) (Int32.ofNat t) x := by
  rw [own_wantE a b c d e x f t (by omega) (by omega), own_hitL, own_vs3 a b c d e]
  simp only [List.map_cons, List.map_nil, own_hmin]
  exact own_dec3 (own_hv x a) (own_hv x b) (own_hv x c) (own_hv x d) (own_hv x e) (own_hv x (2147483647 : Int32)) (own_hv x 0) ⟨f, by omega⟩ ⟨t, by omega⟩
theorem own_dec4 : ∀ A B C D E M z : Bool, ∀ f t : Fin 5, own_fam (fun j => [M, ((A || B) || (C || D)), (A || B), (C || D), A, B, C, D].getD j z) 4 f.1 t.1 = own_wantB A B C D E f.1 t.1 := by decide +kernel
theorem own_vr4 : (List.replicate (2 * own_lv 4) (2147483647 : Int32)) = [(2147483647 : Int32), (2147483647 : Int32), (2147483647 : Int32), (2147483647 : Int32), (2147483647 : Int32), (2147483647 : Int32), (2147483647 : Int32), (2147483647 : Int32)] := rfl
theorem own_vt4_0 (w u0 u1 u2 u3 u4 u5 u6 u7 : Int32) : own_set (own_lv 4) [u0, u1, u2, u3, u4, u5, u6, u7] 0 w = [u0, (own_min (own_min w u5) u3), (own_min w u5), u3, w, u5, u6, u7] := rfl
theorem own_vt4_1 (w u0 u1 u2 u3 u4 u5 u6 u7 : Int32) : own_set (own_lv 4) [u0, u1, u2, u3, u4, u5, u6, u7] 1 w = [u0, (own_min (own_min u4 w) u3), (own_min u4 w), u3, u4, w, u6, u7] := rfl
theorem own_vt4_2 (w u0 u1 u2 u3 u4 u5 u6 u7 : Int32) : own_set (own_lv 4) [u0, u1, u2, u3, u4, u5, u6, u7] 2 w = [u0, (own_min u2 (own_min w u7)), u2, (own_min w u7), u4, u5, w, u7] := rfl
theorem own_vt4_3 (w u0 u1 u2 u3 u4 u5 u6 u7 : Int32) : own_set (own_lv 4) [u0, u1, u2, u3, u4, u5, u6, u7] 3 w = [u0, (own_min u2 (own_min u6 w)), u2, (own_min u6 w), u4, u5, u6, w] := rfl
theorem own_vs4 (a b c d e : Int32) : (own_set (own_lv 4) (own_set (own_lv 4) (own_set (own_lv 4) (own_set (own_lv 4) (List.replicate (2 * own_lv 4) (2147483647 : Int32)) 0 a) 1 b) 2 c) 3 d) = [(2147483647 : Int32), (own_min (own_min a b) (own_min c d)), (own_min a b), (own_min c d), a, b, c, d] := by
  rw [own_vr4, own_vt4_0, own_vt4_1, own_vt4_2, own_vt4_3]
theorem own_case4 (a b c d e x : Int32) (f t : Nat) (hf : f ≤ 4) (ht : t ≤ 4) : own_fam (own_hitf (own_set (own_lv 4) (own_set (own_lv 4) (own_set (own_lv 4) (own_set (own_lv 4) (List.replicate (2 * own_lv 4) (2147483647 : Int32)) 0 a) 1 b) 2 c) 3 d) x) (own_lv 4) f t = own_want a b c d e (Int32.ofNat f) (Int32.ofNat t) x := by
  rw [own_wantE a b c d e x f t (by omega) (by omega), own_hitL, own_vs4 a b c d e]
  simp only [List.map_cons, List.map_nil, own_hmin]
  exact own_dec4 (own_hv x a) (own_hv x b) (own_hv x c) (own_hv x d) (own_hv x e) (own_hv x (2147483647 : Int32)) (own_hv x 0) ⟨f, by omega⟩ ⟨t, by omega⟩
theorem own_dec5 : ∀ A B C D E M z : Bool, ∀ f t : Fin 6, own_fam (fun j => [M, (((A || B) || (C || D)) || ((E || M) || M)), ((A || B) || (C || D)), ((E || M) || M), (A || B), (C || D), (E || M), M, A, B, C, D, E, M, M, M].getD j z) 8 f.1 t.1 = own_wantB A B C D E f.1 t.1 := by decide +kernel
theorem own_vr5 : (List.replicate (2 * own_lv 5) (2147483647 : Int32)) = [(2147483647 : Int32), (2147483647 : Int32), (2147483647 : Int32), (2147483647 : Int32), (2147483647 : Int32), (2147483647 : Int32), (2147483647 : Int32), (2147483647 : Int32), (2147483647 : Int32), (2147483647 : Int32), (2147483647 : Int32), (2147483647 : Int32), (2147483647 : Int32), (2147483647 : Int32), (2147483647 : Int32), (2147483647 : Int32)] := rfl
theorem own_vt5_0 (w u0 u1 u2 u3 u4 u5 u6 u7 u8 u9 u10 u11 u12 u13 u14 u15 : Int32) : own_set (own_lv 5) [u0, u1, u2, u3, u4, u5, u6, u7, u8, u9, u10, u11, u12, u13, u14, u15] 0 w = [u0, (own_min (own_min (own_min w u9) u5) u3), (own_min (own_min w u9) u5), u3, (own_min w u9), u5, u6, u7, w, u9, u10, u11, u12, u13, u14, u15] := rfl
theorem own_vt5_1 (w u0 u1 u2 u3 u4 u5 u6 u7 u8 u9 u10 u11 u12 u13 u14 u15 : Int32) : own_set (own_lv 5) [u0, u1, u2, u3, u4, u5, u6, u7, u8, u9, u10, u11, u12, u13, u14, u15] 1 w = [u0, (own_min (own_min (own_min u8 w) u5) u3), (own_min (own_min u8 w) u5), u3, (own_min u8 w), u5, u6, u7, u8, w, u10, u11, u12, u13, u14, u15] := rfl
theorem own_vt5_2 (w u0 u1 u2 u3 u4 u5 u6 u7 u8 u9 u10 u11 u12 u13 u14 u15 : Int32) : own_set (own_lv 5) [u0, u1, u2, u3, u4, u5, u6, u7, u8, u9, u10, u11, u12, u13, u14, u15] 2 w = [u0, (own_min (own_min u4 (own_min w u11)) u3), (own_min u4 (own_min w u11)), u3, u4, (own_min w u11), u6, u7, u8, u9, w, u11, u12, u13, u14, u15] := rfl
theorem own_vt5_3 (w u0 u1 u2 u3 u4 u5 u6 u7 u8 u9 u10 u11 u12 u13 u14 u15 : Int32) : own_set (own_lv 5) [u0, u1, u2, u3, u4, u5, u6, u7, u8, u9, u10, u11, u12, u13, u14, u15] 3 w = [u0, (own_min (own_min u4 (own_min u10 w)) u3), (own_min u4 (own_min u10 w)), u3, u4, (own_min u10 w), u6, u7, u8, u9, u10, w, u12, u13, u14, u15] := rfl
theorem own_vt5_4 (w u0 u1 u2 u3 u4 u5 u6 u7 u8 u9 u10 u11 u12 u13 u14 u15 : Int32) : own_set (own_lv 5) [u0, u1, u2, u3, u4, u5, u6, u7, u8, u9, u10, u11, u12, u13, u14, u15] 4 w = [u0, (own_min u2 (own_min (own_min w u13) u7)), u2, (own_min (own_min w u13) u7), u4, u5, (own_min w u13), u7, u8, u9, u10, u11, w, u13, u14, u15] := rfl
theorem own_vs5 (a b c d e : Int32) : (own_set (own_lv 5) (own_set (own_lv 5) (own_set (own_lv 5) (own_set (own_lv 5) (own_set (own_lv 5) (List.replicate (2 * own_lv 5) (2147483647 : Int32)) 0 a) 1 b) 2 c) 3 d) 4 e) = [(2147483647 : Int32), (own_min (own_min (own_min a b) (own_min c d)) (own_min (own_min e (2147483647 : Int32)) (2147483647 : Int32))), (own_min (own_min a b) (own_min c d)), (own_min (own_min e (2147483647 : Int32)) (2147483647 : Int32)), (own_min a b), (own_min c d), (own_min e (2147483647 : Int32)), (2147483647 : Int32), a, b, c, d, e, (2147483647 : Int32), (2147483647 : Int32), (2147483647 : Int32)] := by
  rw [own_vr5, own_vt5_0, own_vt5_1, own_vt5_2, own_vt5_3, own_vt5_4]
theorem own_case5 (a b c d e x : Int32) (f t : Nat) (hf : f ≤ 5) (ht : t ≤ 5) : own_fam (own_hitf (own_set (own_lv 5) (own_set (own_lv 5) (own_set (own_lv 5) (own_set (own_lv 5) (own_set (own_lv 5) (List.replicate (2 * own_lv 5) (2147483647 : Int32)) 0 a) 1 b) 2 c) 3 d) 4 e) x) (own_lv 5) f t = own_want a b c d e (Int32.ofNat f) (Int32.ofNat t) x := by
  rw [own_wantE a b c d e x f t (by omega) (by omega), own_hitL, own_vs5 a b c d e]
  simp only [List.map_cons, List.map_nil, own_hmin]
  exact own_dec5 (own_hv x a) (own_hv x b) (own_hv x c) (own_hv x d) (own_hv x e) (own_hv x (2147483647 : Int32)) (own_hv x 0) ⟨f, by omega⟩ ⟨t, by omega⟩
theorem own_pd2 : parseMethodDescriptor "(I)V" = some ⟨[.int], none⟩ := by decide +kernel
theorem own_pd3 : parseMethodDescriptor "(II)V" = some ⟨[.int, .int], none⟩ := by decide +kernel
theorem own_pd4 : parseMethodDescriptor "(III)I" = some ⟨[.int, .int, .int], some .int⟩ := by decide +kernel
theorem own_pd5 : parseMethodDescriptor "(IIIII)Z" = some ⟨[.int, .int, .int, .int, .int], some .boolean⟩ := by decide +kernel
theorem own_ef_law (m : MethodId) (x0 : Int32) (x1 : Int32) (x2 : Int32) (x3 : Int64) (x4 : Int32) (x5 : Int32) : entryFrame m #[(.int x0), (.int x1), (.int x2), (.long x3), (.int x4), (.int x5)] maxLocals = mkF m 0 #[.val (.int x0), .val (.int x1), .val (.int x2), .val (.long x3), .second, .val (.int x4), .val (.int x5), .unset, .unset, .unset, .unset, .unset, .unset, .unset, .unset] [] := by first | (simp [entryFrame, mkF, argsToLocals, Value.category, maxLocals]; done) | rfl
def Q_law (Z : State) (p1 : Int32) (p2 : Int32) (p3 : Int32) (q4 : Int64) (p5 : Int32) (p6 : Int32) (h0 : Heap) (n0 : Nat) (v : Option Value) (h : Heap) (L : List Loc) : Prop := v = some (.int 1) ∧ Fr n0 L
set_option maxRecDepth 65536 in
set_option maxHeartbeats 40000000 in
theorem rm_law (l : Launch) (Z : State) (a0 : Array Value) (hw : ∀ d ∈ tables_1, d.before a0 Z = true) (ws : List Jvm.Cond) (p1 : Int32) (p2 : Int32) (p3 : Int32) (q4 : Int64) (p5 : Int32) (p6 : Int32) (h0 : Heap) (n0 : Nat) (Z0 : n0 ≤ h0.size)  :
    MetFree l x (head1 (Jvm.Cond.code x code maxLocals ret :: ws) room_1) (fun a U => a = #[(.int p1), (.int p2), (.int p3), (.long q4), (.int p5), (.int p6)] ∧ Z.Warmed39 U.vm ∧ U.heap = h0) (fun _ _ _ _ _ => True) (fun _ U o U' => ∃ v L, o = .returned v ∧ Q_law Z p1 p2 p3 q4 p5 p6 h0 n0 v U'.heap L ∧ FrameEnd U o U' L room_1.cells room_1.slots) := by
  refine MetFree.of_bodySF (plainFor_of_name own_pn_com_example_unknot_unknot_sp_MinTreeFirstAtMostPinLaw) hisR ?_
  intro p e s m args below meth c s₁ Bd hml0 hP hK
  obtain ⟨rfl, hZ, hh⟩ := hP
  have hx := Bd.exec
  have hby := Bd.bytes
  have hml : c.maxLocals = 15 := hml0
  have hown : s.vm.findClass "com/example/unknot/unknot/sp/MinTreeFirstAtMostPinLaw" = some m.cls := findClass_of_methodNamed Bd.named
  have hnm := (name_of_methodNamed Bd.named Bd.method).1
  have X0 : Stand p l e room_1 s m #[(.int p1), (.int p2), (.int p3), (.long q4), (.int p5), (.int p6)] below meth c s₁ [] 0 0 := Stand.of_body Bd
  have e0 : s₁.heap = h0 := by rw [← hh, Bd.state]; rfl
  have N0 := Fr.nil n0
  have pre0 : ∀ t, Steps p.tables e below (s₁.setTop (mkF m 0 #[.val (.int p1), .val (.int p2), .val (.int p3), .val (.long q4), .second, .val (.int p5), .val (.int p6), .unset, .unset, .unset, .unset, .unset, .unset, .unset, .unset] [])) t → Steps p.tables e below (s₁.setTop (entryFrame m #[(.int p1), (.int p2), (.int p3), (.long q4), (.int p5), (.int p6)] maxLocals)) t := fun t k => castTop (own_ef_law m p1 p2 p3 q4 p5 p6) k
  obtain ⟨nn, hn1, hn5, hn⟩ := own_n p6
  have hy : ((Int32.ofNat nn) + (1 : Int32)).toInt = (nn : Int) + 1 := by
    have h := (own_one17 ⟨nn, by omega⟩).1
    simp only at h
    rw [h, Int32.toInt_ofNat_of_lt (by omega)]
    omega
  have hy0 : (Int32.ofNat nn) + (1 : Int32) ≠ 0 := fun q => by
    rw [q] at hy
    have e0 : (0 : Int32).toInt = 0 := by decide
    omega
  obtain ⟨f, hf, hf2⟩ := own_mod ((p6.toUInt32 >>> ((8 : Int32) &&& 31).toUInt32).toInt32) ((Int32.ofNat nn) + (1 : Int32)) nn hy
  obtain ⟨t, ht, ht2⟩ := own_mod ((p6.toUInt32 >>> ((16 : Int32) &&& 31).toUInt32).toInt32) ((Int32.ofNat nn) + (1 : Int32)) nn hy
  obtain ⟨d, h_d⟩ : ∃ z : Int32, z = (q4.toInt32) := ⟨_, rfl⟩
  have h2_d : (q4.toInt32) = d := h_d.symm
  obtain ⟨e_, h_e_⟩ : ∃ z : Int32, z = (((q4.toUInt64 >>> ((32 : Int32) &&& 0x3f).toInt64.toUInt64).toInt64).toInt32) := ⟨_, rfl⟩
  have h2_e_ : (((q4.toUInt64 >>> ((32 : Int32) &&& 0x3f).toInt64.toUInt64).toInt64).toInt32) = e_ := h_e_.symm
  have pA : ∀ tt, Steps p.tables e below (s₁.setTop (mkF m 55 #[.val (.int p1), .val (.int p2), .val (.int p3), .val (.long q4), .second, .val (.int p5), .val (.int p6), .val (.int (Int32.ofNat nn)), .val (.int (Int32.ofNat f)), .val (.int (Int32.ofNat t)), .val (.int d), .val (.int e_), .unset, .unset, .unset] [])) tt → Steps p.tables e below (s₁.setTop (mkF m 0 #[.val (.int p1), .val (.int p2), .val (.int p3), .val (.long q4), .second, .val (.int p5), .val (.int p6), .unset, .unset, .unset, .unset, .unset, .unset, .unset, .unset] [])) tt := by
    intro tt kt
    show Steps p.tables e below (s₁.setTop (mkF m 0 #[.val (.int p1), .val (.int p2), .val (.int p3), .val (.long q4), .second, .val (.int p5), .val (.int p6), .unset, .unset, .unset, .unset, .unset, .unset, .unset, .unset] [])) _
    refine XS.iconst X0.here hx rfl (hb hby at_0) ?_
    show Steps p.tables e below (s₁.setTop (mkF m 1 #[.val (.int p1), .val (.int p2), .val (.int p3), .val (.long q4), .second, .val (.int p5), .val (.int p6), .unset, .unset, .unset, .unset, .unset, .unset, .unset, .unset] [(.int (1 : Int32))])) _
    refine XS.iload X0.here hx rfl (hb hby at_1) rfl ?_
    show Steps p.tables e below (s₁.setTop (mkF m 3 #[.val (.int p1), .val (.int p2), .val (.int p3), .val (.long q4), .second, .val (.int p5), .val (.int p6), .unset, .unset, .unset, .unset, .unset, .unset, .unset, .unset] [(.int p6), (.int (1 : Int32))])) _
    refine XS.sipush X0.here hx rfl (hb hby at_3) ?_
    show Steps p.tables e below (s₁.setTop (mkF m 6 #[.val (.int p1), .val (.int p2), .val (.int p3), .val (.long q4), .second, .val (.int p5), .val (.int p6), .unset, .unset, .unset, .unset, .unset, .unset, .unset, .unset] [(.int (255 : Int32)), (.int p6), (.int (1 : Int32))])) _
    refine XS.iand X0.here hx rfl (hb hby at_6) rfl ?_
    show Steps p.tables e below (s₁.setTop (mkF m 7 #[.val (.int p1), .val (.int p2), .val (.int p3), .val (.long q4), .second, .val (.int p5), .val (.int p6), .unset, .unset, .unset, .unset, .unset, .unset, .unset, .unset] [(.int (p6 &&& (255 : Int32))), (.int (1 : Int32))])) _
    refine XS.iconst X0.here hx rfl (hb hby at_7) ?_
    show Steps p.tables e below (s₁.setTop (mkF m 8 #[.val (.int p1), .val (.int p2), .val (.int p3), .val (.long q4), .second, .val (.int p5), .val (.int p6), .unset, .unset, .unset, .unset, .unset, .unset, .unset, .unset] [(.int (5 : Int32)), (.int (p6 &&& (255 : Int32))), (.int (1 : Int32))])) _
    refine iremM X0 hx rfl (hb hby at_8) rfl (by decide) ?_
    show Steps p.tables e below (s₁.setTop (mkF m 9 #[.val (.int p1), .val (.int p2), .val (.int p3), .val (.long q4), .second, .val (.int p5), .val (.int p6), .unset, .unset, .unset, .unset, .unset, .unset, .unset, .unset] [(.int ((p6 &&& (255 : Int32)) % (5 : Int32))), (.int (1 : Int32))])) _
    refine XS.iadd X0.here hx rfl (hb hby at_9) rfl ?_
    show Steps p.tables e below (s₁.setTop (mkF m 10 #[.val (.int p1), .val (.int p2), .val (.int p3), .val (.long q4), .second, .val (.int p5), .val (.int p6), .unset, .unset, .unset, .unset, .unset, .unset, .unset, .unset] [(.int ((1 : Int32) + ((p6 &&& (255 : Int32)) % (5 : Int32))))])) _
    rw [hn]
    show Steps p.tables e below (s₁.setTop (mkF m 10 #[.val (.int p1), .val (.int p2), .val (.int p3), .val (.long q4), .second, .val (.int p5), .val (.int p6), .unset, .unset, .unset, .unset, .unset, .unset, .unset, .unset] [(.int (Int32.ofNat nn))])) _
    refine XS.istore X0.here hx rfl (hb hby at_10) rfl (l' := #[.val (.int p1), .val (.int p2), .val (.int p3), .val (.long q4), .second, .val (.int p5), .val (.int p6), .val (.int (Int32.ofNat nn)), .unset, .unset, .unset, .unset, .unset, .unset, .unset]) rfl ?_
    show Steps p.tables e below (s₁.setTop (mkF m 12 #[.val (.int p1), .val (.int p2), .val (.int p3), .val (.long q4), .second, .val (.int p5), .val (.int p6), .val (.int (Int32.ofNat nn)), .unset, .unset, .unset, .unset, .unset, .unset, .unset] [])) _
    refine XS.iload X0.here hx rfl (hb hby at_12) rfl ?_
    show Steps p.tables e below (s₁.setTop (mkF m 14 #[.val (.int p1), .val (.int p2), .val (.int p3), .val (.long q4), .second, .val (.int p5), .val (.int p6), .val (.int (Int32.ofNat nn)), .unset, .unset, .unset, .unset, .unset, .unset, .unset] [(.int p6)])) _
    refine XS.bipush X0.here hx rfl (hb hby at_14) ?_
    show Steps p.tables e below (s₁.setTop (mkF m 16 #[.val (.int p1), .val (.int p2), .val (.int p3), .val (.long q4), .second, .val (.int p5), .val (.int p6), .val (.int (Int32.ofNat nn)), .unset, .unset, .unset, .unset, .unset, .unset, .unset] [(.int (8 : Int32)), (.int p6)])) _
    refine XS.iushr X0.here hx rfl (hb hby at_16) rfl ?_
    show Steps p.tables e below (s₁.setTop (mkF m 17 #[.val (.int p1), .val (.int p2), .val (.int p3), .val (.long q4), .second, .val (.int p5), .val (.int p6), .val (.int (Int32.ofNat nn)), .unset, .unset, .unset, .unset, .unset, .unset, .unset] [(.int ((p6.toUInt32 >>> ((8 : Int32) &&& 31).toUInt32).toInt32))])) _
    refine XS.sipush X0.here hx rfl (hb hby at_17) ?_
    show Steps p.tables e below (s₁.setTop (mkF m 20 #[.val (.int p1), .val (.int p2), .val (.int p3), .val (.long q4), .second, .val (.int p5), .val (.int p6), .val (.int (Int32.ofNat nn)), .unset, .unset, .unset, .unset, .unset, .unset, .unset] [(.int (255 : Int32)), (.int ((p6.toUInt32 >>> ((8 : Int32) &&& 31).toUInt32).toInt32))])) _
    refine XS.iand X0.here hx rfl (hb hby at_20) rfl ?_
    show Steps p.tables e below (s₁.setTop (mkF m 21 #[.val (.int p1), .val (.int p2), .val (.int p3), .val (.long q4), .second, .val (.int p5), .val (.int p6), .val (.int (Int32.ofNat nn)), .unset, .unset, .unset, .unset, .unset, .unset, .unset] [(.int (((p6.toUInt32 >>> ((8 : Int32) &&& 31).toUInt32).toInt32) &&& (255 : Int32)))])) _
    refine XS.iload X0.here hx rfl (hb hby at_21) rfl ?_
    show Steps p.tables e below (s₁.setTop (mkF m 23 #[.val (.int p1), .val (.int p2), .val (.int p3), .val (.long q4), .second, .val (.int p5), .val (.int p6), .val (.int (Int32.ofNat nn)), .unset, .unset, .unset, .unset, .unset, .unset, .unset] [(.int (Int32.ofNat nn)), (.int (((p6.toUInt32 >>> ((8 : Int32) &&& 31).toUInt32).toInt32) &&& (255 : Int32)))])) _
    refine XS.iconst X0.here hx rfl (hb hby at_23) ?_
    show Steps p.tables e below (s₁.setTop (mkF m 24 #[.val (.int p1), .val (.int p2), .val (.int p3), .val (.long q4), .second, .val (.int p5), .val (.int p6), .val (.int (Int32.ofNat nn)), .unset, .unset, .unset, .unset, .unset, .unset, .unset] [(.int (1 : Int32)), (.int (Int32.ofNat nn)), (.int (((p6.toUInt32 >>> ((8 : Int32) &&& 31).toUInt32).toInt32) &&& (255 : Int32)))])) _
    refine XS.iadd X0.here hx rfl (hb hby at_24) rfl ?_
    show Steps p.tables e below (s₁.setTop (mkF m 25 #[.val (.int p1), .val (.int p2), .val (.int p3), .val (.long q4), .second, .val (.int p5), .val (.int p6), .val (.int (Int32.ofNat nn)), .unset, .unset, .unset, .unset, .unset, .unset, .unset] [(.int ((Int32.ofNat nn) + (1 : Int32))), (.int (((p6.toUInt32 >>> ((8 : Int32) &&& 31).toUInt32).toInt32) &&& (255 : Int32)))])) _
    refine iremM X0 hx rfl (hb hby at_25) rfl hy0 ?_
    show Steps p.tables e below (s₁.setTop (mkF m 26 #[.val (.int p1), .val (.int p2), .val (.int p3), .val (.long q4), .second, .val (.int p5), .val (.int p6), .val (.int (Int32.ofNat nn)), .unset, .unset, .unset, .unset, .unset, .unset, .unset] [(.int ((((p6.toUInt32 >>> ((8 : Int32) &&& 31).toUInt32).toInt32) &&& (255 : Int32)) % ((Int32.ofNat nn) + (1 : Int32))))])) _
    rw [hf2]
    show Steps p.tables e below (s₁.setTop (mkF m 26 #[.val (.int p1), .val (.int p2), .val (.int p3), .val (.long q4), .second, .val (.int p5), .val (.int p6), .val (.int (Int32.ofNat nn)), .unset, .unset, .unset, .unset, .unset, .unset, .unset] [(.int (Int32.ofNat f))])) _
    refine XS.istore X0.here hx rfl (hb hby at_26) rfl (l' := #[.val (.int p1), .val (.int p2), .val (.int p3), .val (.long q4), .second, .val (.int p5), .val (.int p6), .val (.int (Int32.ofNat nn)), .val (.int (Int32.ofNat f)), .unset, .unset, .unset, .unset, .unset, .unset]) rfl ?_
    show Steps p.tables e below (s₁.setTop (mkF m 28 #[.val (.int p1), .val (.int p2), .val (.int p3), .val (.long q4), .second, .val (.int p5), .val (.int p6), .val (.int (Int32.ofNat nn)), .val (.int (Int32.ofNat f)), .unset, .unset, .unset, .unset, .unset, .unset] [])) _
    refine XS.iload X0.here hx rfl (hb hby at_28) rfl ?_
    show Steps p.tables e below (s₁.setTop (mkF m 30 #[.val (.int p1), .val (.int p2), .val (.int p3), .val (.long q4), .second, .val (.int p5), .val (.int p6), .val (.int (Int32.ofNat nn)), .val (.int (Int32.ofNat f)), .unset, .unset, .unset, .unset, .unset, .unset] [(.int p6)])) _
    refine XS.bipush X0.here hx rfl (hb hby at_30) ?_
    show Steps p.tables e below (s₁.setTop (mkF m 32 #[.val (.int p1), .val (.int p2), .val (.int p3), .val (.long q4), .second, .val (.int p5), .val (.int p6), .val (.int (Int32.ofNat nn)), .val (.int (Int32.ofNat f)), .unset, .unset, .unset, .unset, .unset, .unset] [(.int (16 : Int32)), (.int p6)])) _
    refine XS.iushr X0.here hx rfl (hb hby at_32) rfl ?_
    show Steps p.tables e below (s₁.setTop (mkF m 33 #[.val (.int p1), .val (.int p2), .val (.int p3), .val (.long q4), .second, .val (.int p5), .val (.int p6), .val (.int (Int32.ofNat nn)), .val (.int (Int32.ofNat f)), .unset, .unset, .unset, .unset, .unset, .unset] [(.int ((p6.toUInt32 >>> ((16 : Int32) &&& 31).toUInt32).toInt32))])) _
    refine XS.sipush X0.here hx rfl (hb hby at_33) ?_
    show Steps p.tables e below (s₁.setTop (mkF m 36 #[.val (.int p1), .val (.int p2), .val (.int p3), .val (.long q4), .second, .val (.int p5), .val (.int p6), .val (.int (Int32.ofNat nn)), .val (.int (Int32.ofNat f)), .unset, .unset, .unset, .unset, .unset, .unset] [(.int (255 : Int32)), (.int ((p6.toUInt32 >>> ((16 : Int32) &&& 31).toUInt32).toInt32))])) _
    refine XS.iand X0.here hx rfl (hb hby at_36) rfl ?_
    show Steps p.tables e below (s₁.setTop (mkF m 37 #[.val (.int p1), .val (.int p2), .val (.int p3), .val (.long q4), .second, .val (.int p5), .val (.int p6), .val (.int (Int32.ofNat nn)), .val (.int (Int32.ofNat f)), .unset, .unset, .unset, .unset, .unset, .unset] [(.int (((p6.toUInt32 >>> ((16 : Int32) &&& 31).toUInt32).toInt32) &&& (255 : Int32)))])) _
    refine XS.iload X0.here hx rfl (hb hby at_37) rfl ?_
    show Steps p.tables e below (s₁.setTop (mkF m 39 #[.val (.int p1), .val (.int p2), .val (.int p3), .val (.long q4), .second, .val (.int p5), .val (.int p6), .val (.int (Int32.ofNat nn)), .val (.int (Int32.ofNat f)), .unset, .unset, .unset, .unset, .unset, .unset] [(.int (Int32.ofNat nn)), (.int (((p6.toUInt32 >>> ((16 : Int32) &&& 31).toUInt32).toInt32) &&& (255 : Int32)))])) _
    refine XS.iconst X0.here hx rfl (hb hby at_39) ?_
    show Steps p.tables e below (s₁.setTop (mkF m 40 #[.val (.int p1), .val (.int p2), .val (.int p3), .val (.long q4), .second, .val (.int p5), .val (.int p6), .val (.int (Int32.ofNat nn)), .val (.int (Int32.ofNat f)), .unset, .unset, .unset, .unset, .unset, .unset] [(.int (1 : Int32)), (.int (Int32.ofNat nn)), (.int (((p6.toUInt32 >>> ((16 : Int32) &&& 31).toUInt32).toInt32) &&& (255 : Int32)))])) _
    refine XS.iadd X0.here hx rfl (hb hby at_40) rfl ?_
    show Steps p.tables e below (s₁.setTop (mkF m 41 #[.val (.int p1), .val (.int p2), .val (.int p3), .val (.long q4), .second, .val (.int p5), .val (.int p6), .val (.int (Int32.ofNat nn)), .val (.int (Int32.ofNat f)), .unset, .unset, .unset, .unset, .unset, .unset] [(.int ((Int32.ofNat nn) + (1 : Int32))), (.int (((p6.toUInt32 >>> ((16 : Int32) &&& 31).toUInt32).toInt32) &&& (255 : Int32)))])) _
    refine iremM X0 hx rfl (hb hby at_41) rfl hy0 ?_
    show Steps p.tables e below (s₁.setTop (mkF m 42 #[.val (.int p1), .val (.int p2), .val (.int p3), .val (.long q4), .second, .val (.int p5), .val (.int p6), .val (.int (Int32.ofNat nn)), .val (.int (Int32.ofNat f)), .unset, .unset, .unset, .unset, .unset, .unset] [(.int ((((p6.toUInt32 >>> ((16 : Int32) &&& 31).toUInt32).toInt32) &&& (255 : Int32)) % ((Int32.ofNat nn) + (1 : Int32))))])) _
    rw [ht2]
    show Steps p.tables e below (s₁.setTop (mkF m 42 #[.val (.int p1), .val (.int p2), .val (.int p3), .val (.long q4), .second, .val (.int p5), .val (.int p6), .val (.int (Int32.ofNat nn)), .val (.int (Int32.ofNat f)), .unset, .unset, .unset, .unset, .unset, .unset] [(.int (Int32.ofNat t))])) _
    refine XS.istore X0.here hx rfl (hb hby at_42) rfl (l' := #[.val (.int p1), .val (.int p2), .val (.int p3), .val (.long q4), .second, .val (.int p5), .val (.int p6), .val (.int (Int32.ofNat nn)), .val (.int (Int32.ofNat f)), .val (.int (Int32.ofNat t)), .unset, .unset, .unset, .unset, .unset]) rfl ?_
    show Steps p.tables e below (s₁.setTop (mkF m 44 #[.val (.int p1), .val (.int p2), .val (.int p3), .val (.long q4), .second, .val (.int p5), .val (.int p6), .val (.int (Int32.ofNat nn)), .val (.int (Int32.ofNat f)), .val (.int (Int32.ofNat t)), .unset, .unset, .unset, .unset, .unset] [])) _
    refine XS.lloadN X0.here hx rfl (hb hby at_44) rfl ?_
    show Steps p.tables e below (s₁.setTop (mkF m 45 #[.val (.int p1), .val (.int p2), .val (.int p3), .val (.long q4), .second, .val (.int p5), .val (.int p6), .val (.int (Int32.ofNat nn)), .val (.int (Int32.ofNat f)), .val (.int (Int32.ofNat t)), .unset, .unset, .unset, .unset, .unset] [(.long q4)])) _
    refine XS.l2i X0.here hx rfl (hb hby at_45) rfl ?_
    show Steps p.tables e below (s₁.setTop (mkF m 46 #[.val (.int p1), .val (.int p2), .val (.int p3), .val (.long q4), .second, .val (.int p5), .val (.int p6), .val (.int (Int32.ofNat nn)), .val (.int (Int32.ofNat f)), .val (.int (Int32.ofNat t)), .unset, .unset, .unset, .unset, .unset] [(.int (q4.toInt32))])) _
    rw [h2_d]
    show Steps p.tables e below (s₁.setTop (mkF m 46 #[.val (.int p1), .val (.int p2), .val (.int p3), .val (.long q4), .second, .val (.int p5), .val (.int p6), .val (.int (Int32.ofNat nn)), .val (.int (Int32.ofNat f)), .val (.int (Int32.ofNat t)), .unset, .unset, .unset, .unset, .unset] [(.int d)])) _
    refine XS.istore X0.here hx rfl (hb hby at_46) rfl (l' := #[.val (.int p1), .val (.int p2), .val (.int p3), .val (.long q4), .second, .val (.int p5), .val (.int p6), .val (.int (Int32.ofNat nn)), .val (.int (Int32.ofNat f)), .val (.int (Int32.ofNat t)), .val (.int d), .unset, .unset, .unset, .unset]) rfl ?_
    show Steps p.tables e below (s₁.setTop (mkF m 48 #[.val (.int p1), .val (.int p2), .val (.int p3), .val (.long q4), .second, .val (.int p5), .val (.int p6), .val (.int (Int32.ofNat nn)), .val (.int (Int32.ofNat f)), .val (.int (Int32.ofNat t)), .val (.int d), .unset, .unset, .unset, .unset] [])) _
    refine XS.lloadN X0.here hx rfl (hb hby at_48) rfl ?_
    show Steps p.tables e below (s₁.setTop (mkF m 49 #[.val (.int p1), .val (.int p2), .val (.int p3), .val (.long q4), .second, .val (.int p5), .val (.int p6), .val (.int (Int32.ofNat nn)), .val (.int (Int32.ofNat f)), .val (.int (Int32.ofNat t)), .val (.int d), .unset, .unset, .unset, .unset] [(.long q4)])) _
    refine XS.bipush X0.here hx rfl (hb hby at_49) ?_
    show Steps p.tables e below (s₁.setTop (mkF m 51 #[.val (.int p1), .val (.int p2), .val (.int p3), .val (.long q4), .second, .val (.int p5), .val (.int p6), .val (.int (Int32.ofNat nn)), .val (.int (Int32.ofNat f)), .val (.int (Int32.ofNat t)), .val (.int d), .unset, .unset, .unset, .unset] [(.int (32 : Int32)), (.long q4)])) _
    refine XS.lushr X0.here hx rfl (hb hby at_51) rfl ?_
    show Steps p.tables e below (s₁.setTop (mkF m 52 #[.val (.int p1), .val (.int p2), .val (.int p3), .val (.long q4), .second, .val (.int p5), .val (.int p6), .val (.int (Int32.ofNat nn)), .val (.int (Int32.ofNat f)), .val (.int (Int32.ofNat t)), .val (.int d), .unset, .unset, .unset, .unset] [(.long ((q4.toUInt64 >>> ((32 : Int32) &&& 0x3f).toInt64.toUInt64).toInt64))])) _
    refine XS.l2i X0.here hx rfl (hb hby at_52) rfl ?_
    show Steps p.tables e below (s₁.setTop (mkF m 53 #[.val (.int p1), .val (.int p2), .val (.int p3), .val (.long q4), .second, .val (.int p5), .val (.int p6), .val (.int (Int32.ofNat nn)), .val (.int (Int32.ofNat f)), .val (.int (Int32.ofNat t)), .val (.int d), .unset, .unset, .unset, .unset] [(.int (((q4.toUInt64 >>> ((32 : Int32) &&& 0x3f).toInt64.toUInt64).toInt64).toInt32))])) _
    rw [h2_e_]
    show Steps p.tables e below (s₁.setTop (mkF m 53 #[.val (.int p1), .val (.int p2), .val (.int p3), .val (.long q4), .second, .val (.int p5), .val (.int p6), .val (.int (Int32.ofNat nn)), .val (.int (Int32.ofNat f)), .val (.int (Int32.ofNat t)), .val (.int d), .unset, .unset, .unset, .unset] [(.int e_)])) _
    refine XS.istore X0.here hx rfl (hb hby at_53) rfl (l' := #[.val (.int p1), .val (.int p2), .val (.int p3), .val (.long q4), .second, .val (.int p5), .val (.int p6), .val (.int (Int32.ofNat nn)), .val (.int (Int32.ofNat f)), .val (.int (Int32.ofNat t)), .val (.int d), .val (.int e_), .unset, .unset, .unset]) rfl ?_
    exact kt
  obtain ⟨o, gt, T9, locs9, X9, N9, sz9, hgt, st9⟩ : ∃ (o : Addr) (gt : Int32) (T' : State) (locs' : List Loc), Stand p l e room_1 s m #[(.int p1), (.int p2), (.int p3), (.long q4), (.int p5), (.int p6)] below meth c T' locs' 2 18 ∧ Fr n0 locs' ∧ n0 ≤ T'.heap.size ∧ gt = own_want p1 p2 p3 d e_ (Int32.ofNat f) (Int32.ofNat t) p5 ∧ ∀ t_, Steps p.tables e below (T'.setTop (mkF m 140 #[.val (.int p1), .val (.int p2), .val (.int p3), .val (.long q4), .second, .val (.int p5), .val (.int p6), .val (.int (Int32.ofNat nn)), .val (.int (Int32.ofNat f)), .val (.int (Int32.ofNat t)), .val (.int d), .val (.int e_), .val (.ref o), .val (.int gt), .unset] [])) t_ → Steps p.tables e below (s₁.setTop (mkF m 55 #[.val (.int p1), .val (.int p2), .val (.int p3), .val (.long q4), .second, .val (.int p5), .val (.int p6), .val (.int (Int32.ofNat nn)), .val (.int (Int32.ofNat f)), .val (.int (Int32.ofNat t)), .val (.int d), .val (.int e_), .unset, .unset, .unset] [])) t_ := by
    rcases (show nn = 1 ∨ nn = 2 ∨ nn = 3 ∨ nn = 4 ∨ nn = 5 by omega) with rfl | rfl | rfl | rfl | rfl
    · obtain ⟨T1, h1, X1, e1, E1, A1, D1, -, st1⟩ := newO X0 hx hZ hown (hw _ (List.mem_of_getElem? (i := 0) rfl)) (hw _ (List.mem_of_getElem? (i := 1) rfl)) (hw _ (List.mem_of_getElem? (i := 2) rfl)) e0 (g := (mkF m 55 #[.val (.int p1), .val (.int p2), .val (.int p3), .val (.long q4), .second, .val (.int p5), .val (.int p6), .val (.int (Int32.ofNat 1)), .val (.int (Int32.ofNat f)), .val (.int (Int32.ofNat t)), .val (.int d), .val (.int e_), .unset, .unset, .unset] [])) rfl (hb hby at_55) (by decide) (by decide)
      obtain ⟨o, g1⟩ : ∃ z, z = h0.size := ⟨_, rfl⟩
      rw [← g1] at A1 D1 st1
      have gn_o : n0 ≤ o := Nat.le_trans Z0 (Nat.le_of_eq g1.symm)
      have sz1 : n0 ≤ h1.size := Nat.le_trans Z0 E1.1
      have E_o := A1
      have F1_o := D1 (Or.inr (hw _ (List.mem_of_getElem? (i := 10) rfl))) (ty := .int) (by decide)
      have F2_o := D1 (Or.inr (hw _ (List.mem_of_getElem? (i := 13) rfl))) (ty := .array .int) (by decide)
      obtain ⟨_, _, ⟨T2, L2, k2, n2⟩, -, X2, ⟨Lc2, hQ2, l2, y2, z2⟩, st2⟩ := X1.specialBack hx (y := (⟨"com/example/unknot/unknot/sp/MinTree", "<init>", "(I)V"⟩ : MethodName)) rfl hown (mvT hZ (hw _ (List.mem_of_getElem? (i := 3) rfl))) (mvT hZ (hw _ (List.mem_of_getElem? (i := 4) rfl))) (mvT hZ (hw _ (List.mem_of_getElem? (i := 5) rfl))) (by decide) (backOf (W := 1) (rm_ini l Z a0 hw [] o (Int32.ofNat 1) 1 _ _ h1 n0 sz1 rfl (by decide) (by decide) E_o F1_o F2_o gn_o) hZ (hw _ (List.mem_of_getElem? (i := 5) rfl)) (hw _ (List.mem_of_getElem? (i := 2) rfl)) (by decide) (by decide)) (g := (mkF m 61 #[.val (.int p1), .val (.int p2), .val (.int p3), .val (.long q4), .second, .val (.int p5), .val (.int p6), .val (.int (Int32.ofNat 1)), .val (.int (Int32.ofNat f)), .val (.int (Int32.ofNat t)), .val (.int d), .val (.int e_), .unset, .unset, .unset] [(.int (Int32.ofNat 1)), (.ref o), (.ref o)])) rfl (by rw [hml]; rfl) (Steps.refl _) (a := o) (argsL := [(.int (Int32.ofNat 1))]) (rest := [(.ref o)]) (lenOf own_pd2 rfl) rfl (by show 2 * 0 + _ ≤ _; exact Nat.le_of_eq rfl) (hb hby at_61) (fun _ _ => ⟨rfl, e1, (by decide : 1 + 1 ≤ _), (by decide : 2 + 16 ≤ _)⟩)
      dsimp only [Pt.U, Pt.locs, Pt.cells, Pt.slots] at X2 l2 y2 z2 st2 hQ2
      rw [l2, y2, z2] at X2
      obtain ⟨rfl, Nq2, K1, b, kc, gb, Tr0⟩ := hQ2
      have sz2 : n0 ≤ T2.heap.size := Nat.le_trans sz1 K1.1
      have N2 := Fr.app N0 Nq2
      obtain ⟨cq3, kq3, q3a, q3b, q3c⟩ := isOf hZ rfl (Tr0.1)
      obtain ⟨_, _, ⟨T3, L3, k3, n3⟩, -, X3, ⟨Lc3, hQ3, l3, y3, z3⟩, st3⟩ := X2.virtualBack hx (y := (⟨"com/example/unknot/unknot/sp/MinTree", "set", "(II)V"⟩ : MethodName)) (z := (⟨"com/example/unknot/unknot/sp/MinTree", "set", "(II)V"⟩ : MethodName)) hown (mvT hZ (hw _ (List.mem_of_getElem? (i := 19) rfl))) (mvT hZ (hw _ (List.mem_of_getElem? (i := 20) rfl))) (notFace_of_selects (args := #[]) (mvT hZ (hw _ (List.mem_of_getElem? (i := 22) rfl)))) (mvT hZ (hw _ (List.mem_of_getElem? (i := 22) rfl))) (mvT hZ (hw _ (List.mem_of_getElem? (i := 21) rfl))) (by decide) (backOf (W := 0) (rm_set l Z a0 hw [] o (0 : Int32) p1 b kc (own_lv 1) 0 (List.replicate (2 * own_lv 1) (2147483647 : Int32)) T2.heap n0 sz2 rfl (by decide) (by decide) gb Tr0) hZ (hw _ (List.mem_of_getElem? (i := 23) rfl)) (hw _ (List.mem_of_getElem? (i := 2) rfl)) (by decide) (by decide)) q3a q3c (g := (mkF m 70 #[.val (.int p1), .val (.int p2), .val (.int p3), .val (.long q4), .second, .val (.int p5), .val (.int p6), .val (.int (Int32.ofNat 1)), .val (.int (Int32.ofNat f)), .val (.int (Int32.ofNat t)), .val (.int d), .val (.int e_), .val (.ref o), .unset, .unset] [(.int p1), (.int (0 : Int32)), (.ref o)])) rfl (by rw [hml]; rfl) (Steps.refl _) (argsL := [(.int (0 : Int32)), (.int p1)]) (rest := []) (lenOf own_pd3 rfl) rfl (by show 2 * 0 + _ ≤ _; exact Nat.le_of_eq rfl) (hb hby at_70) (fun _ _ => ⟨rfl, rfl, (by decide : 2 + 0 ≤ _), (by decide : 18 + 0 ≤ _)⟩)
      dsimp only [Pt.U, Pt.locs, Pt.cells, Pt.slots] at X3 l3 y3 z3 st3 hQ3
      rw [l3, y3, z3] at X3
      obtain ⟨rfl, Nq3, K2, Tr1⟩ := hQ3
      have sz3 : n0 ≤ T3.heap.size := Nat.le_trans sz2 K2.1
      have N3 := Fr.app N2 Nq3
      obtain ⟨cq4, kq4, q4a, q4b, q4c⟩ := isOf hZ rfl (Tr1.1)
      obtain ⟨_, _, ⟨T4, L4, k4, n4⟩, -, X4, ⟨Lc4, hQ4, l4, y4, z4⟩, st4⟩ := X3.virtualBack hx (y := (⟨"com/example/unknot/unknot/sp/MinTree", "firstAtMost", "(III)I"⟩ : MethodName)) (z := (⟨"com/example/unknot/unknot/sp/MinTree", "firstAtMost", "(III)I"⟩ : MethodName)) hown (mvT hZ (hw _ (List.mem_of_getElem? (i := 28) rfl))) (mvT hZ (hw _ (List.mem_of_getElem? (i := 29) rfl))) (notFace_of_selects (args := #[]) (mvT hZ (hw _ (List.mem_of_getElem? (i := 31) rfl)))) (mvT hZ (hw _ (List.mem_of_getElem? (i := 31) rfl))) (mvT hZ (hw _ (List.mem_of_getElem? (i := 30) rfl))) (by decide) (backOf (W := 0) (rm_fam l Z a0 hw [] o (Int32.ofNat f) (Int32.ofNat t) p5 b kc (own_lv 1) f t (own_set (own_lv 1) (List.replicate (2 * own_lv 1) (2147483647 : Int32)) 0 p1) T3.heap n0 sz3 rfl rfl (by decide) (Nat.le_trans ht (by decide)) (Nat.le_trans hf (by decide)) Tr1) hZ (hw _ (List.mem_of_getElem? (i := 32) rfl)) (hw _ (List.mem_of_getElem? (i := 2) rfl)) (by decide) (by decide)) q4a q4c (g := (mkF m 135 #[.val (.int p1), .val (.int p2), .val (.int p3), .val (.long q4), .second, .val (.int p5), .val (.int p6), .val (.int (Int32.ofNat 1)), .val (.int (Int32.ofNat f)), .val (.int (Int32.ofNat t)), .val (.int d), .val (.int e_), .val (.ref o), .unset, .unset] [(.int p5), (.int (Int32.ofNat t)), (.int (Int32.ofNat f)), (.ref o)])) rfl (by rw [hml]; rfl) (Steps.refl _) (argsL := [(.int (Int32.ofNat f)), (.int (Int32.ofNat t)), (.int p5)]) (rest := []) (lenOf own_pd4 rfl) rfl (by show 2 * 0 + _ ≤ _; exact Nat.le_of_eq rfl) (hb hby at_135) (fun _ _ => ⟨rfl, rfl, (by decide : 2 + 0 ≤ _), (by decide : 18 + 0 ≤ _)⟩)
      dsimp only [Pt.U, Pt.locs, Pt.cells, Pt.slots] at X4 l4 y4 z4 st4 hQ4
      rw [l4, y4, z4] at X4
      obtain ⟨rfl, Nq4, e4⟩ := hQ4
      have N4 := Fr.app N3 Nq4
      obtain ⟨gt, h_gt⟩ : ∃ z : Int32, z = (own_fam (own_hitf (own_set (own_lv 1) (List.replicate (2 * own_lv 1) (2147483647 : Int32)) 0 p1) p5) (own_lv 1) f t) := ⟨_, rfl⟩
      have h2_gt : (own_fam (own_hitf (own_set (own_lv 1) (List.replicate (2 * own_lv 1) (2147483647 : Int32)) 0 p1) p5) (own_lv 1) f t) = gt := h_gt.symm
      have hgt : gt = own_want p1 p2 p3 d e_ (Int32.ofNat f) (Int32.ofNat t) p5 := h_gt.trans (own_case1 p1 p2 p3 d e_ p5 f t hf ht)
      refine ⟨o, gt, T4, _, X4, N4, by rw [e4]; exact sz3, hgt, fun t_ kt => ?_⟩
      show Steps p.tables e below (s₁.setTop (mkF m 55 #[.val (.int p1), .val (.int p2), .val (.int p3), .val (.long q4), .second, .val (.int p5), .val (.int p6), .val (.int (Int32.ofNat 1)), .val (.int (Int32.ofNat f)), .val (.int (Int32.ofNat t)), .val (.int d), .val (.int e_), .unset, .unset, .unset] [])) _
      refine st1 _ ?_
      show Steps p.tables e below (T1.setTop (mkF m 58 #[.val (.int p1), .val (.int p2), .val (.int p3), .val (.long q4), .second, .val (.int p5), .val (.int p6), .val (.int (Int32.ofNat 1)), .val (.int (Int32.ofNat f)), .val (.int (Int32.ofNat t)), .val (.int d), .val (.int e_), .unset, .unset, .unset] [(.ref o)])) _
      refine XS.dup X1.here hx rfl (hb hby at_58) rfl rfl ?_
      show Steps p.tables e below (T1.setTop (mkF m 59 #[.val (.int p1), .val (.int p2), .val (.int p3), .val (.long q4), .second, .val (.int p5), .val (.int p6), .val (.int (Int32.ofNat 1)), .val (.int (Int32.ofNat f)), .val (.int (Int32.ofNat t)), .val (.int d), .val (.int e_), .unset, .unset, .unset] [(.ref o), (.ref o)])) _
      refine XS.iload X1.here hx rfl (hb hby at_59) rfl ?_
      show Steps p.tables e below (T1.setTop (mkF m 61 #[.val (.int p1), .val (.int p2), .val (.int p3), .val (.long q4), .second, .val (.int p5), .val (.int p6), .val (.int (Int32.ofNat 1)), .val (.int (Int32.ofNat f)), .val (.int (Int32.ofNat t)), .val (.int d), .val (.int e_), .unset, .unset, .unset] [(.int (Int32.ofNat 1)), (.ref o), (.ref o)])) _
      refine st2.trans ?_
      show Steps p.tables e below (T2.setTop (mkF m 64 #[.val (.int p1), .val (.int p2), .val (.int p3), .val (.long q4), .second, .val (.int p5), .val (.int p6), .val (.int (Int32.ofNat 1)), .val (.int (Int32.ofNat f)), .val (.int (Int32.ofNat t)), .val (.int d), .val (.int e_), .unset, .unset, .unset] [(.ref o)])) _
      refine XS.astore X2.here hx rfl (hb hby at_64) rfl rfl (l' := #[.val (.int p1), .val (.int p2), .val (.int p3), .val (.long q4), .second, .val (.int p5), .val (.int p6), .val (.int (Int32.ofNat 1)), .val (.int (Int32.ofNat f)), .val (.int (Int32.ofNat t)), .val (.int d), .val (.int e_), .val (.ref o), .unset, .unset]) rfl ?_
      show Steps p.tables e below (T2.setTop (mkF m 66 #[.val (.int p1), .val (.int p2), .val (.int p3), .val (.long q4), .second, .val (.int p5), .val (.int p6), .val (.int (Int32.ofNat 1)), .val (.int (Int32.ofNat f)), .val (.int (Int32.ofNat t)), .val (.int d), .val (.int e_), .val (.ref o), .unset, .unset] [])) _
      refine XS.aload X2.here hx rfl (hb hby at_66) rfl rfl ?_
      show Steps p.tables e below (T2.setTop (mkF m 68 #[.val (.int p1), .val (.int p2), .val (.int p3), .val (.long q4), .second, .val (.int p5), .val (.int p6), .val (.int (Int32.ofNat 1)), .val (.int (Int32.ofNat f)), .val (.int (Int32.ofNat t)), .val (.int d), .val (.int e_), .val (.ref o), .unset, .unset] [(.ref o)])) _
      refine XS.iconst X2.here hx rfl (hb hby at_68) ?_
      show Steps p.tables e below (T2.setTop (mkF m 69 #[.val (.int p1), .val (.int p2), .val (.int p3), .val (.long q4), .second, .val (.int p5), .val (.int p6), .val (.int (Int32.ofNat 1)), .val (.int (Int32.ofNat f)), .val (.int (Int32.ofNat t)), .val (.int d), .val (.int e_), .val (.ref o), .unset, .unset] [(.int (0 : Int32)), (.ref o)])) _
      refine XS.iloadN X2.here hx rfl (hb hby at_69) rfl ?_
      show Steps p.tables e below (T2.setTop (mkF m 70 #[.val (.int p1), .val (.int p2), .val (.int p3), .val (.long q4), .second, .val (.int p5), .val (.int p6), .val (.int (Int32.ofNat 1)), .val (.int (Int32.ofNat f)), .val (.int (Int32.ofNat t)), .val (.int d), .val (.int e_), .val (.ref o), .unset, .unset] [(.int p1), (.int (0 : Int32)), (.ref o)])) _
      refine st3.trans ?_
      show Steps p.tables e below (T3.setTop (mkF m 73 #[.val (.int p1), .val (.int p2), .val (.int p3), .val (.long q4), .second, .val (.int p5), .val (.int p6), .val (.int (Int32.ofNat 1)), .val (.int (Int32.ofNat f)), .val (.int (Int32.ofNat t)), .val (.int d), .val (.int e_), .val (.ref o), .unset, .unset] [])) _
      refine XS.iload X3.here hx rfl (hb hby at_73) rfl ?_
      show Steps p.tables e below (T3.setTop (mkF m 75 #[.val (.int p1), .val (.int p2), .val (.int p3), .val (.long q4), .second, .val (.int p5), .val (.int p6), .val (.int (Int32.ofNat 1)), .val (.int (Int32.ofNat f)), .val (.int (Int32.ofNat t)), .val (.int d), .val (.int e_), .val (.ref o), .unset, .unset] [(.int (Int32.ofNat 1))])) _
      refine XS.iconst X3.here hx rfl (hb hby at_75) ?_
      show Steps p.tables e below (T3.setTop (mkF m 76 #[.val (.int p1), .val (.int p2), .val (.int p3), .val (.long q4), .second, .val (.int p5), .val (.int p6), .val (.int (Int32.ofNat 1)), .val (.int (Int32.ofNat f)), .val (.int (Int32.ofNat t)), .val (.int d), .val (.int e_), .val (.ref o), .unset, .unset] [(.int (1 : Int32)), (.int (Int32.ofNat 1))])) _
      refine XS.icmpYes X3.here hx rfl (pc0 := 76) (pc' := 86) rfl (hb hby at_76) rfl (flt (by decide)).2.2.2 (by decide) (by decide) ?_
      show Steps p.tables e below (T3.setTop (mkF m 86 #[.val (.int p1), .val (.int p2), .val (.int p3), .val (.long q4), .second, .val (.int p5), .val (.int p6), .val (.int (Int32.ofNat 1)), .val (.int (Int32.ofNat f)), .val (.int (Int32.ofNat t)), .val (.int d), .val (.int e_), .val (.ref o), .unset, .unset] [])) _
      refine XS.iload X3.here hx rfl (hb hby at_86) rfl ?_
      show Steps p.tables e below (T3.setTop (mkF m 88 #[.val (.int p1), .val (.int p2), .val (.int p3), .val (.long q4), .second, .val (.int p5), .val (.int p6), .val (.int (Int32.ofNat 1)), .val (.int (Int32.ofNat f)), .val (.int (Int32.ofNat t)), .val (.int d), .val (.int e_), .val (.ref o), .unset, .unset] [(.int (Int32.ofNat 1))])) _
      refine XS.iconst X3.here hx rfl (hb hby at_88) ?_
      show Steps p.tables e below (T3.setTop (mkF m 89 #[.val (.int p1), .val (.int p2), .val (.int p3), .val (.long q4), .second, .val (.int p5), .val (.int p6), .val (.int (Int32.ofNat 1)), .val (.int (Int32.ofNat f)), .val (.int (Int32.ofNat t)), .val (.int d), .val (.int e_), .val (.ref o), .unset, .unset] [(.int (2 : Int32)), (.int (Int32.ofNat 1))])) _
      refine XS.icmpYes X3.here hx rfl (pc0 := 89) (pc' := 99) rfl (hb hby at_89) rfl (flt (by decide)).2.2.2 (by decide) (by decide) ?_
      show Steps p.tables e below (T3.setTop (mkF m 99 #[.val (.int p1), .val (.int p2), .val (.int p3), .val (.long q4), .second, .val (.int p5), .val (.int p6), .val (.int (Int32.ofNat 1)), .val (.int (Int32.ofNat f)), .val (.int (Int32.ofNat t)), .val (.int d), .val (.int e_), .val (.ref o), .unset, .unset] [])) _
      refine XS.iload X3.here hx rfl (hb hby at_99) rfl ?_
      show Steps p.tables e below (T3.setTop (mkF m 101 #[.val (.int p1), .val (.int p2), .val (.int p3), .val (.long q4), .second, .val (.int p5), .val (.int p6), .val (.int (Int32.ofNat 1)), .val (.int (Int32.ofNat f)), .val (.int (Int32.ofNat t)), .val (.int d), .val (.int e_), .val (.ref o), .unset, .unset] [(.int (Int32.ofNat 1))])) _
      refine XS.iconst X3.here hx rfl (hb hby at_101) ?_
      show Steps p.tables e below (T3.setTop (mkF m 102 #[.val (.int p1), .val (.int p2), .val (.int p3), .val (.long q4), .second, .val (.int p5), .val (.int p6), .val (.int (Int32.ofNat 1)), .val (.int (Int32.ofNat f)), .val (.int (Int32.ofNat t)), .val (.int d), .val (.int e_), .val (.ref o), .unset, .unset] [(.int (3 : Int32)), (.int (Int32.ofNat 1))])) _
      refine XS.icmpYes X3.here hx rfl (pc0 := 102) (pc' := 113) rfl (hb hby at_102) rfl (flt (by decide)).2.2.2 (by decide) (by decide) ?_
      show Steps p.tables e below (T3.setTop (mkF m 113 #[.val (.int p1), .val (.int p2), .val (.int p3), .val (.long q4), .second, .val (.int p5), .val (.int p6), .val (.int (Int32.ofNat 1)), .val (.int (Int32.ofNat f)), .val (.int (Int32.ofNat t)), .val (.int d), .val (.int e_), .val (.ref o), .unset, .unset] [])) _
      refine XS.iload X3.here hx rfl (hb hby at_113) rfl ?_
      show Steps p.tables e below (T3.setTop (mkF m 115 #[.val (.int p1), .val (.int p2), .val (.int p3), .val (.long q4), .second, .val (.int p5), .val (.int p6), .val (.int (Int32.ofNat 1)), .val (.int (Int32.ofNat f)), .val (.int (Int32.ofNat t)), .val (.int d), .val (.int e_), .val (.ref o), .unset, .unset] [(.int (Int32.ofNat 1))])) _
      refine XS.iconst X3.here hx rfl (hb hby at_115) ?_
      show Steps p.tables e below (T3.setTop (mkF m 116 #[.val (.int p1), .val (.int p2), .val (.int p3), .val (.long q4), .second, .val (.int p5), .val (.int p6), .val (.int (Int32.ofNat 1)), .val (.int (Int32.ofNat f)), .val (.int (Int32.ofNat t)), .val (.int d), .val (.int e_), .val (.ref o), .unset, .unset] [(.int (4 : Int32)), (.int (Int32.ofNat 1))])) _
      refine XS.icmpYes X3.here hx rfl (pc0 := 116) (pc' := 127) rfl (hb hby at_116) rfl (flt (by decide)).2.2.2 (by decide) (by decide) ?_
      show Steps p.tables e below (T3.setTop (mkF m 127 #[.val (.int p1), .val (.int p2), .val (.int p3), .val (.long q4), .second, .val (.int p5), .val (.int p6), .val (.int (Int32.ofNat 1)), .val (.int (Int32.ofNat f)), .val (.int (Int32.ofNat t)), .val (.int d), .val (.int e_), .val (.ref o), .unset, .unset] [])) _
      refine XS.aload X3.here hx rfl (hb hby at_127) rfl rfl ?_
      show Steps p.tables e below (T3.setTop (mkF m 129 #[.val (.int p1), .val (.int p2), .val (.int p3), .val (.long q4), .second, .val (.int p5), .val (.int p6), .val (.int (Int32.ofNat 1)), .val (.int (Int32.ofNat f)), .val (.int (Int32.ofNat t)), .val (.int d), .val (.int e_), .val (.ref o), .unset, .unset] [(.ref o)])) _
      refine XS.iload X3.here hx rfl (hb hby at_129) rfl ?_
      show Steps p.tables e below (T3.setTop (mkF m 131 #[.val (.int p1), .val (.int p2), .val (.int p3), .val (.long q4), .second, .val (.int p5), .val (.int p6), .val (.int (Int32.ofNat 1)), .val (.int (Int32.ofNat f)), .val (.int (Int32.ofNat t)), .val (.int d), .val (.int e_), .val (.ref o), .unset, .unset] [(.int (Int32.ofNat f)), (.ref o)])) _
      refine XS.iload X3.here hx rfl (hb hby at_131) rfl ?_
      show Steps p.tables e below (T3.setTop (mkF m 133 #[.val (.int p1), .val (.int p2), .val (.int p3), .val (.long q4), .second, .val (.int p5), .val (.int p6), .val (.int (Int32.ofNat 1)), .val (.int (Int32.ofNat f)), .val (.int (Int32.ofNat t)), .val (.int d), .val (.int e_), .val (.ref o), .unset, .unset] [(.int (Int32.ofNat t)), (.int (Int32.ofNat f)), (.ref o)])) _
      refine XS.iload X3.here hx rfl (hb hby at_133) rfl ?_
      show Steps p.tables e below (T3.setTop (mkF m 135 #[.val (.int p1), .val (.int p2), .val (.int p3), .val (.long q4), .second, .val (.int p5), .val (.int p6), .val (.int (Int32.ofNat 1)), .val (.int (Int32.ofNat f)), .val (.int (Int32.ofNat t)), .val (.int d), .val (.int e_), .val (.ref o), .unset, .unset] [(.int p5), (.int (Int32.ofNat t)), (.int (Int32.ofNat f)), (.ref o)])) _
      refine st4.trans ?_
      show Steps p.tables e below (T4.setTop (mkF m 138 #[.val (.int p1), .val (.int p2), .val (.int p3), .val (.long q4), .second, .val (.int p5), .val (.int p6), .val (.int (Int32.ofNat 1)), .val (.int (Int32.ofNat f)), .val (.int (Int32.ofNat t)), .val (.int d), .val (.int e_), .val (.ref o), .unset, .unset] [(.int (own_fam (own_hitf (own_set (own_lv 1) (List.replicate (2 * own_lv 1) (2147483647 : Int32)) 0 p1) p5) (own_lv 1) f t))])) _
      rw [h2_gt]
      show Steps p.tables e below (T4.setTop (mkF m 138 #[.val (.int p1), .val (.int p2), .val (.int p3), .val (.long q4), .second, .val (.int p5), .val (.int p6), .val (.int (Int32.ofNat 1)), .val (.int (Int32.ofNat f)), .val (.int (Int32.ofNat t)), .val (.int d), .val (.int e_), .val (.ref o), .unset, .unset] [(.int gt)])) _
      refine XS.istore X4.here hx rfl (hb hby at_138) rfl (l' := #[.val (.int p1), .val (.int p2), .val (.int p3), .val (.long q4), .second, .val (.int p5), .val (.int p6), .val (.int (Int32.ofNat 1)), .val (.int (Int32.ofNat f)), .val (.int (Int32.ofNat t)), .val (.int d), .val (.int e_), .val (.ref o), .val (.int gt), .unset]) rfl ?_
      exact kt
    · obtain ⟨T5, h5, X5, e5, E5, A5, D5, -, st5⟩ := newO X0 hx hZ hown (hw _ (List.mem_of_getElem? (i := 0) rfl)) (hw _ (List.mem_of_getElem? (i := 1) rfl)) (hw _ (List.mem_of_getElem? (i := 2) rfl)) e0 (g := (mkF m 55 #[.val (.int p1), .val (.int p2), .val (.int p3), .val (.long q4), .second, .val (.int p5), .val (.int p6), .val (.int (Int32.ofNat 2)), .val (.int (Int32.ofNat f)), .val (.int (Int32.ofNat t)), .val (.int d), .val (.int e_), .unset, .unset, .unset] [])) rfl (hb hby at_55) (by decide) (by decide)
      obtain ⟨o, g5⟩ : ∃ z, z = h0.size := ⟨_, rfl⟩
      rw [← g5] at A5 D5 st5
      have gn_o : n0 ≤ o := Nat.le_trans Z0 (Nat.le_of_eq g5.symm)
      have sz5 : n0 ≤ h5.size := Nat.le_trans Z0 E5.1
      have E_o := A5
      have F1_o := D5 (Or.inr (hw _ (List.mem_of_getElem? (i := 10) rfl))) (ty := .int) (by decide)
      have F2_o := D5 (Or.inr (hw _ (List.mem_of_getElem? (i := 13) rfl))) (ty := .array .int) (by decide)
      obtain ⟨_, _, ⟨T6, L6, k6, n6⟩, -, X6, ⟨Lc6, hQ6, l6, y6, z6⟩, st6⟩ := X5.specialBack hx (y := (⟨"com/example/unknot/unknot/sp/MinTree", "<init>", "(I)V"⟩ : MethodName)) rfl hown (mvT hZ (hw _ (List.mem_of_getElem? (i := 3) rfl))) (mvT hZ (hw _ (List.mem_of_getElem? (i := 4) rfl))) (mvT hZ (hw _ (List.mem_of_getElem? (i := 5) rfl))) (by decide) (backOf (W := 1) (rm_ini l Z a0 hw [] o (Int32.ofNat 2) 2 _ _ h5 n0 sz5 rfl (by decide) (by decide) E_o F1_o F2_o gn_o) hZ (hw _ (List.mem_of_getElem? (i := 5) rfl)) (hw _ (List.mem_of_getElem? (i := 2) rfl)) (by decide) (by decide)) (g := (mkF m 61 #[.val (.int p1), .val (.int p2), .val (.int p3), .val (.long q4), .second, .val (.int p5), .val (.int p6), .val (.int (Int32.ofNat 2)), .val (.int (Int32.ofNat f)), .val (.int (Int32.ofNat t)), .val (.int d), .val (.int e_), .unset, .unset, .unset] [(.int (Int32.ofNat 2)), (.ref o), (.ref o)])) rfl (by rw [hml]; rfl) (Steps.refl _) (a := o) (argsL := [(.int (Int32.ofNat 2))]) (rest := [(.ref o)]) (lenOf own_pd2 rfl) rfl (by show 2 * 0 + _ ≤ _; exact Nat.le_of_eq rfl) (hb hby at_61) (fun _ _ => ⟨rfl, e5, (by decide : 1 + 1 ≤ _), (by decide : 2 + 16 ≤ _)⟩)
      dsimp only [Pt.U, Pt.locs, Pt.cells, Pt.slots] at X6 l6 y6 z6 st6 hQ6
      rw [l6, y6, z6] at X6
      obtain ⟨rfl, Nq6, K1, b, kc, gb, Tr0⟩ := hQ6
      have sz6 : n0 ≤ T6.heap.size := Nat.le_trans sz5 K1.1
      have N6 := Fr.app N0 Nq6
      obtain ⟨cq7, kq7, q7a, q7b, q7c⟩ := isOf hZ rfl (Tr0.1)
      obtain ⟨_, _, ⟨T7, L7, k7, n7⟩, -, X7, ⟨Lc7, hQ7, l7, y7, z7⟩, st7⟩ := X6.virtualBack hx (y := (⟨"com/example/unknot/unknot/sp/MinTree", "set", "(II)V"⟩ : MethodName)) (z := (⟨"com/example/unknot/unknot/sp/MinTree", "set", "(II)V"⟩ : MethodName)) hown (mvT hZ (hw _ (List.mem_of_getElem? (i := 19) rfl))) (mvT hZ (hw _ (List.mem_of_getElem? (i := 20) rfl))) (notFace_of_selects (args := #[]) (mvT hZ (hw _ (List.mem_of_getElem? (i := 22) rfl)))) (mvT hZ (hw _ (List.mem_of_getElem? (i := 22) rfl))) (mvT hZ (hw _ (List.mem_of_getElem? (i := 21) rfl))) (by decide) (backOf (W := 0) (rm_set l Z a0 hw [] o (0 : Int32) p1 b kc (own_lv 2) 0 (List.replicate (2 * own_lv 2) (2147483647 : Int32)) T6.heap n0 sz6 rfl (by decide) (by decide) gb Tr0) hZ (hw _ (List.mem_of_getElem? (i := 23) rfl)) (hw _ (List.mem_of_getElem? (i := 2) rfl)) (by decide) (by decide)) q7a q7c (g := (mkF m 70 #[.val (.int p1), .val (.int p2), .val (.int p3), .val (.long q4), .second, .val (.int p5), .val (.int p6), .val (.int (Int32.ofNat 2)), .val (.int (Int32.ofNat f)), .val (.int (Int32.ofNat t)), .val (.int d), .val (.int e_), .val (.ref o), .unset, .unset] [(.int p1), (.int (0 : Int32)), (.ref o)])) rfl (by rw [hml]; rfl) (Steps.refl _) (argsL := [(.int (0 : Int32)), (.int p1)]) (rest := []) (lenOf own_pd3 rfl) rfl (by show 2 * 0 + _ ≤ _; exact Nat.le_of_eq rfl) (hb hby at_70) (fun _ _ => ⟨rfl, rfl, (by decide : 2 + 0 ≤ _), (by decide : 18 + 0 ≤ _)⟩)
      dsimp only [Pt.U, Pt.locs, Pt.cells, Pt.slots] at X7 l7 y7 z7 st7 hQ7
      rw [l7, y7, z7] at X7
      obtain ⟨rfl, Nq7, K2, Tr1⟩ := hQ7
      have sz7 : n0 ≤ T7.heap.size := Nat.le_trans sz6 K2.1
      have N7 := Fr.app N6 Nq7
      obtain ⟨cq8, kq8, q8a, q8b, q8c⟩ := isOf hZ rfl (Tr1.1)
      obtain ⟨_, _, ⟨T8, L8, k8, n8⟩, -, X8, ⟨Lc8, hQ8, l8, y8, z8⟩, st8⟩ := X7.virtualBack hx (y := (⟨"com/example/unknot/unknot/sp/MinTree", "set", "(II)V"⟩ : MethodName)) (z := (⟨"com/example/unknot/unknot/sp/MinTree", "set", "(II)V"⟩ : MethodName)) hown (mvT hZ (hw _ (List.mem_of_getElem? (i := 19) rfl))) (mvT hZ (hw _ (List.mem_of_getElem? (i := 20) rfl))) (notFace_of_selects (args := #[]) (mvT hZ (hw _ (List.mem_of_getElem? (i := 22) rfl)))) (mvT hZ (hw _ (List.mem_of_getElem? (i := 22) rfl))) (mvT hZ (hw _ (List.mem_of_getElem? (i := 21) rfl))) (by decide) (backOf (W := 0) (rm_set l Z a0 hw [] o (1 : Int32) p2 b kc (own_lv 2) 1 (own_set (own_lv 2) (List.replicate (2 * own_lv 2) (2147483647 : Int32)) 0 p1) T7.heap n0 sz7 rfl (by decide) (by decide) gb Tr1) hZ (hw _ (List.mem_of_getElem? (i := 23) rfl)) (hw _ (List.mem_of_getElem? (i := 2) rfl)) (by decide) (by decide)) q8a q8c (g := (mkF m 83 #[.val (.int p1), .val (.int p2), .val (.int p3), .val (.long q4), .second, .val (.int p5), .val (.int p6), .val (.int (Int32.ofNat 2)), .val (.int (Int32.ofNat f)), .val (.int (Int32.ofNat t)), .val (.int d), .val (.int e_), .val (.ref o), .unset, .unset] [(.int p2), (.int (1 : Int32)), (.ref o)])) rfl (by rw [hml]; rfl) (Steps.refl _) (argsL := [(.int (1 : Int32)), (.int p2)]) (rest := []) (lenOf own_pd3 rfl) rfl (by show 2 * 0 + _ ≤ _; exact Nat.le_of_eq rfl) (hb hby at_83) (fun _ _ => ⟨rfl, rfl, (by decide : 2 + 0 ≤ _), (by decide : 18 + 0 ≤ _)⟩)
      dsimp only [Pt.U, Pt.locs, Pt.cells, Pt.slots] at X8 l8 y8 z8 st8 hQ8
      rw [l8, y8, z8] at X8
      obtain ⟨rfl, Nq8, K3, Tr2⟩ := hQ8
      have sz8 : n0 ≤ T8.heap.size := Nat.le_trans sz7 K3.1
      have N8 := Fr.app N7 Nq8
      obtain ⟨cq9, kq9, q9a, q9b, q9c⟩ := isOf hZ rfl (Tr2.1)
      obtain ⟨_, _, ⟨T9, L9, k9, n9⟩, -, X9, ⟨Lc9, hQ9, l9, y9, z9⟩, st9⟩ := X8.virtualBack hx (y := (⟨"com/example/unknot/unknot/sp/MinTree", "firstAtMost", "(III)I"⟩ : MethodName)) (z := (⟨"com/example/unknot/unknot/sp/MinTree", "firstAtMost", "(III)I"⟩ : MethodName)) hown (mvT hZ (hw _ (List.mem_of_getElem? (i := 28) rfl))) (mvT hZ (hw _ (List.mem_of_getElem? (i := 29) rfl))) (notFace_of_selects (args := #[]) (mvT hZ (hw _ (List.mem_of_getElem? (i := 31) rfl)))) (mvT hZ (hw _ (List.mem_of_getElem? (i := 31) rfl))) (mvT hZ (hw _ (List.mem_of_getElem? (i := 30) rfl))) (by decide) (backOf (W := 0) (rm_fam l Z a0 hw [] o (Int32.ofNat f) (Int32.ofNat t) p5 b kc (own_lv 2) f t (own_set (own_lv 2) (own_set (own_lv 2) (List.replicate (2 * own_lv 2) (2147483647 : Int32)) 0 p1) 1 p2) T8.heap n0 sz8 rfl rfl (by decide) (Nat.le_trans ht (by decide)) (Nat.le_trans hf (by decide)) Tr2) hZ (hw _ (List.mem_of_getElem? (i := 32) rfl)) (hw _ (List.mem_of_getElem? (i := 2) rfl)) (by decide) (by decide)) q9a q9c (g := (mkF m 135 #[.val (.int p1), .val (.int p2), .val (.int p3), .val (.long q4), .second, .val (.int p5), .val (.int p6), .val (.int (Int32.ofNat 2)), .val (.int (Int32.ofNat f)), .val (.int (Int32.ofNat t)), .val (.int d), .val (.int e_), .val (.ref o), .unset, .unset] [(.int p5), (.int (Int32.ofNat t)), (.int (Int32.ofNat f)), (.ref o)])) rfl (by rw [hml]; rfl) (Steps.refl _) (argsL := [(.int (Int32.ofNat f)), (.int (Int32.ofNat t)), (.int p5)]) (rest := []) (lenOf own_pd4 rfl) rfl (by show 2 * 0 + _ ≤ _; exact Nat.le_of_eq rfl) (hb hby at_135) (fun _ _ => ⟨rfl, rfl, (by decide : 2 + 0 ≤ _), (by decide : 18 + 0 ≤ _)⟩)
      dsimp only [Pt.U, Pt.locs, Pt.cells, Pt.slots] at X9 l9 y9 z9 st9 hQ9
      rw [l9, y9, z9] at X9
      obtain ⟨rfl, Nq9, e9⟩ := hQ9
      have N9 := Fr.app N8 Nq9
      obtain ⟨gt, h_gt⟩ : ∃ z : Int32, z = (own_fam (own_hitf (own_set (own_lv 2) (own_set (own_lv 2) (List.replicate (2 * own_lv 2) (2147483647 : Int32)) 0 p1) 1 p2) p5) (own_lv 2) f t) := ⟨_, rfl⟩
      have h2_gt : (own_fam (own_hitf (own_set (own_lv 2) (own_set (own_lv 2) (List.replicate (2 * own_lv 2) (2147483647 : Int32)) 0 p1) 1 p2) p5) (own_lv 2) f t) = gt := h_gt.symm
      have hgt : gt = own_want p1 p2 p3 d e_ (Int32.ofNat f) (Int32.ofNat t) p5 := h_gt.trans (own_case2 p1 p2 p3 d e_ p5 f t hf ht)
      refine ⟨o, gt, T9, _, X9, N9, by rw [e9]; exact sz8, hgt, fun t_ kt => ?_⟩
      show Steps p.tables e below (s₁.setTop (mkF m 55 #[.val (.int p1), .val (.int p2), .val (.int p3), .val (.long q4), .second, .val (.int p5), .val (.int p6), .val (.int (Int32.ofNat 2)), .val (.int (Int32.ofNat f)), .val (.int (Int32.ofNat t)), .val (.int d), .val (.int e_), .unset, .unset, .unset] [])) _
      refine st5 _ ?_
      show Steps p.tables e below (T5.setTop (mkF m 58 #[.val (.int p1), .val (.int p2), .val (.int p3), .val (.long q4), .second, .val (.int p5), .val (.int p6), .val (.int (Int32.ofNat 2)), .val (.int (Int32.ofNat f)), .val (.int (Int32.ofNat t)), .val (.int d), .val (.int e_), .unset, .unset, .unset] [(.ref o)])) _
      refine XS.dup X5.here hx rfl (hb hby at_58) rfl rfl ?_
      show Steps p.tables e below (T5.setTop (mkF m 59 #[.val (.int p1), .val (.int p2), .val (.int p3), .val (.long q4), .second, .val (.int p5), .val (.int p6), .val (.int (Int32.ofNat 2)), .val (.int (Int32.ofNat f)), .val (.int (Int32.ofNat t)), .val (.int d), .val (.int e_), .unset, .unset, .unset] [(.ref o), (.ref o)])) _
      refine XS.iload X5.here hx rfl (hb hby at_59) rfl ?_
      show Steps p.tables e below (T5.setTop (mkF m 61 #[.val (.int p1), .val (.int p2), .val (.int p3), .val (.long q4), .second, .val (.int p5), .val (.int p6), .val (.int (Int32.ofNat 2)), .val (.int (Int32.ofNat f)), .val (.int (Int32.ofNat t)), .val (.int d), .val (.int e_), .unset, .unset, .unset] [(.int (Int32.ofNat 2)), (.ref o), (.ref o)])) _
      refine st6.trans ?_
      show Steps p.tables e below (T6.setTop (mkF m 64 #[.val (.int p1), .val (.int p2), .val (.int p3), .val (.long q4), .second, .val (.int p5), .val (.int p6), .val (.int (Int32.ofNat 2)), .val (.int (Int32.ofNat f)), .val (.int (Int32.ofNat t)), .val (.int d), .val (.int e_), .unset, .unset, .unset] [(.ref o)])) _
      refine XS.astore X6.here hx rfl (hb hby at_64) rfl rfl (l' := #[.val (.int p1), .val (.int p2), .val (.int p3), .val (.long q4), .second, .val (.int p5), .val (.int p6), .val (.int (Int32.ofNat 2)), .val (.int (Int32.ofNat f)), .val (.int (Int32.ofNat t)), .val (.int d), .val (.int e_), .val (.ref o), .unset, .unset]) rfl ?_
      show Steps p.tables e below (T6.setTop (mkF m 66 #[.val (.int p1), .val (.int p2), .val (.int p3), .val (.long q4), .second, .val (.int p5), .val (.int p6), .val (.int (Int32.ofNat 2)), .val (.int (Int32.ofNat f)), .val (.int (Int32.ofNat t)), .val (.int d), .val (.int e_), .val (.ref o), .unset, .unset] [])) _
      refine XS.aload X6.here hx rfl (hb hby at_66) rfl rfl ?_
      show Steps p.tables e below (T6.setTop (mkF m 68 #[.val (.int p1), .val (.int p2), .val (.int p3), .val (.long q4), .second, .val (.int p5), .val (.int p6), .val (.int (Int32.ofNat 2)), .val (.int (Int32.ofNat f)), .val (.int (Int32.ofNat t)), .val (.int d), .val (.int e_), .val (.ref o), .unset, .unset] [(.ref o)])) _
      refine XS.iconst X6.here hx rfl (hb hby at_68) ?_
      show Steps p.tables e below (T6.setTop (mkF m 69 #[.val (.int p1), .val (.int p2), .val (.int p3), .val (.long q4), .second, .val (.int p5), .val (.int p6), .val (.int (Int32.ofNat 2)), .val (.int (Int32.ofNat f)), .val (.int (Int32.ofNat t)), .val (.int d), .val (.int e_), .val (.ref o), .unset, .unset] [(.int (0 : Int32)), (.ref o)])) _
      refine XS.iloadN X6.here hx rfl (hb hby at_69) rfl ?_
      show Steps p.tables e below (T6.setTop (mkF m 70 #[.val (.int p1), .val (.int p2), .val (.int p3), .val (.long q4), .second, .val (.int p5), .val (.int p6), .val (.int (Int32.ofNat 2)), .val (.int (Int32.ofNat f)), .val (.int (Int32.ofNat t)), .val (.int d), .val (.int e_), .val (.ref o), .unset, .unset] [(.int p1), (.int (0 : Int32)), (.ref o)])) _
      refine st7.trans ?_
      show Steps p.tables e below (T7.setTop (mkF m 73 #[.val (.int p1), .val (.int p2), .val (.int p3), .val (.long q4), .second, .val (.int p5), .val (.int p6), .val (.int (Int32.ofNat 2)), .val (.int (Int32.ofNat f)), .val (.int (Int32.ofNat t)), .val (.int d), .val (.int e_), .val (.ref o), .unset, .unset] [])) _
      refine XS.iload X7.here hx rfl (hb hby at_73) rfl ?_
      show Steps p.tables e below (T7.setTop (mkF m 75 #[.val (.int p1), .val (.int p2), .val (.int p3), .val (.long q4), .second, .val (.int p5), .val (.int p6), .val (.int (Int32.ofNat 2)), .val (.int (Int32.ofNat f)), .val (.int (Int32.ofNat t)), .val (.int d), .val (.int e_), .val (.ref o), .unset, .unset] [(.int (Int32.ofNat 2))])) _
      refine XS.iconst X7.here hx rfl (hb hby at_75) ?_
      show Steps p.tables e below (T7.setTop (mkF m 76 #[.val (.int p1), .val (.int p2), .val (.int p3), .val (.long q4), .second, .val (.int p5), .val (.int p6), .val (.int (Int32.ofNat 2)), .val (.int (Int32.ofNat f)), .val (.int (Int32.ofNat t)), .val (.int d), .val (.int e_), .val (.ref o), .unset, .unset] [(.int (1 : Int32)), (.int (Int32.ofNat 2))])) _
      refine XS.icmpNo X7.here hx rfl (hb hby at_76) rfl (tlt (by decide)).2.2.2 ?_
      show Steps p.tables e below (T7.setTop (mkF m 79 #[.val (.int p1), .val (.int p2), .val (.int p3), .val (.long q4), .second, .val (.int p5), .val (.int p6), .val (.int (Int32.ofNat 2)), .val (.int (Int32.ofNat f)), .val (.int (Int32.ofNat t)), .val (.int d), .val (.int e_), .val (.ref o), .unset, .unset] [])) _
      refine XS.aload X7.here hx rfl (hb hby at_79) rfl rfl ?_
      show Steps p.tables e below (T7.setTop (mkF m 81 #[.val (.int p1), .val (.int p2), .val (.int p3), .val (.long q4), .second, .val (.int p5), .val (.int p6), .val (.int (Int32.ofNat 2)), .val (.int (Int32.ofNat f)), .val (.int (Int32.ofNat t)), .val (.int d), .val (.int e_), .val (.ref o), .unset, .unset] [(.ref o)])) _
      refine XS.iconst X7.here hx rfl (hb hby at_81) ?_
      show Steps p.tables e below (T7.setTop (mkF m 82 #[.val (.int p1), .val (.int p2), .val (.int p3), .val (.long q4), .second, .val (.int p5), .val (.int p6), .val (.int (Int32.ofNat 2)), .val (.int (Int32.ofNat f)), .val (.int (Int32.ofNat t)), .val (.int d), .val (.int e_), .val (.ref o), .unset, .unset] [(.int (1 : Int32)), (.ref o)])) _
      refine XS.iloadN X7.here hx rfl (hb hby at_82) rfl ?_
      show Steps p.tables e below (T7.setTop (mkF m 83 #[.val (.int p1), .val (.int p2), .val (.int p3), .val (.long q4), .second, .val (.int p5), .val (.int p6), .val (.int (Int32.ofNat 2)), .val (.int (Int32.ofNat f)), .val (.int (Int32.ofNat t)), .val (.int d), .val (.int e_), .val (.ref o), .unset, .unset] [(.int p2), (.int (1 : Int32)), (.ref o)])) _
      refine st8.trans ?_
      show Steps p.tables e below (T8.setTop (mkF m 86 #[.val (.int p1), .val (.int p2), .val (.int p3), .val (.long q4), .second, .val (.int p5), .val (.int p6), .val (.int (Int32.ofNat 2)), .val (.int (Int32.ofNat f)), .val (.int (Int32.ofNat t)), .val (.int d), .val (.int e_), .val (.ref o), .unset, .unset] [])) _
      refine XS.iload X8.here hx rfl (hb hby at_86) rfl ?_
      show Steps p.tables e below (T8.setTop (mkF m 88 #[.val (.int p1), .val (.int p2), .val (.int p3), .val (.long q4), .second, .val (.int p5), .val (.int p6), .val (.int (Int32.ofNat 2)), .val (.int (Int32.ofNat f)), .val (.int (Int32.ofNat t)), .val (.int d), .val (.int e_), .val (.ref o), .unset, .unset] [(.int (Int32.ofNat 2))])) _
      refine XS.iconst X8.here hx rfl (hb hby at_88) ?_
      show Steps p.tables e below (T8.setTop (mkF m 89 #[.val (.int p1), .val (.int p2), .val (.int p3), .val (.long q4), .second, .val (.int p5), .val (.int p6), .val (.int (Int32.ofNat 2)), .val (.int (Int32.ofNat f)), .val (.int (Int32.ofNat t)), .val (.int d), .val (.int e_), .val (.ref o), .unset, .unset] [(.int (2 : Int32)), (.int (Int32.ofNat 2))])) _
      refine XS.icmpYes X8.here hx rfl (pc0 := 89) (pc' := 99) rfl (hb hby at_89) rfl (flt (by decide)).2.2.2 (by decide) (by decide) ?_
      show Steps p.tables e below (T8.setTop (mkF m 99 #[.val (.int p1), .val (.int p2), .val (.int p3), .val (.long q4), .second, .val (.int p5), .val (.int p6), .val (.int (Int32.ofNat 2)), .val (.int (Int32.ofNat f)), .val (.int (Int32.ofNat t)), .val (.int d), .val (.int e_), .val (.ref o), .unset, .unset] [])) _
      refine XS.iload X8.here hx rfl (hb hby at_99) rfl ?_
      show Steps p.tables e below (T8.setTop (mkF m 101 #[.val (.int p1), .val (.int p2), .val (.int p3), .val (.long q4), .second, .val (.int p5), .val (.int p6), .val (.int (Int32.ofNat 2)), .val (.int (Int32.ofNat f)), .val (.int (Int32.ofNat t)), .val (.int d), .val (.int e_), .val (.ref o), .unset, .unset] [(.int (Int32.ofNat 2))])) _
      refine XS.iconst X8.here hx rfl (hb hby at_101) ?_
      show Steps p.tables e below (T8.setTop (mkF m 102 #[.val (.int p1), .val (.int p2), .val (.int p3), .val (.long q4), .second, .val (.int p5), .val (.int p6), .val (.int (Int32.ofNat 2)), .val (.int (Int32.ofNat f)), .val (.int (Int32.ofNat t)), .val (.int d), .val (.int e_), .val (.ref o), .unset, .unset] [(.int (3 : Int32)), (.int (Int32.ofNat 2))])) _
      refine XS.icmpYes X8.here hx rfl (pc0 := 102) (pc' := 113) rfl (hb hby at_102) rfl (flt (by decide)).2.2.2 (by decide) (by decide) ?_
      show Steps p.tables e below (T8.setTop (mkF m 113 #[.val (.int p1), .val (.int p2), .val (.int p3), .val (.long q4), .second, .val (.int p5), .val (.int p6), .val (.int (Int32.ofNat 2)), .val (.int (Int32.ofNat f)), .val (.int (Int32.ofNat t)), .val (.int d), .val (.int e_), .val (.ref o), .unset, .unset] [])) _
      refine XS.iload X8.here hx rfl (hb hby at_113) rfl ?_
      show Steps p.tables e below (T8.setTop (mkF m 115 #[.val (.int p1), .val (.int p2), .val (.int p3), .val (.long q4), .second, .val (.int p5), .val (.int p6), .val (.int (Int32.ofNat 2)), .val (.int (Int32.ofNat f)), .val (.int (Int32.ofNat t)), .val (.int d), .val (.int e_), .val (.ref o), .unset, .unset] [(.int (Int32.ofNat 2))])) _
      refine XS.iconst X8.here hx rfl (hb hby at_115) ?_
      show Steps p.tables e below (T8.setTop (mkF m 116 #[.val (.int p1), .val (.int p2), .val (.int p3), .val (.long q4), .second, .val (.int p5), .val (.int p6), .val (.int (Int32.ofNat 2)), .val (.int (Int32.ofNat f)), .val (.int (Int32.ofNat t)), .val (.int d), .val (.int e_), .val (.ref o), .unset, .unset] [(.int (4 : Int32)), (.int (Int32.ofNat 2))])) _
      refine XS.icmpYes X8.here hx rfl (pc0 := 116) (pc' := 127) rfl (hb hby at_116) rfl (flt (by decide)).2.2.2 (by decide) (by decide) ?_
      show Steps p.tables e below (T8.setTop (mkF m 127 #[.val (.int p1), .val (.int p2), .val (.int p3), .val (.long q4), .second, .val (.int p5), .val (.int p6), .val (.int (Int32.ofNat 2)), .val (.int (Int32.ofNat f)), .val (.int (Int32.ofNat t)), .val (.int d), .val (.int e_), .val (.ref o), .unset, .unset] [])) _
      refine XS.aload X8.here hx rfl (hb hby at_127) rfl rfl ?_
      show Steps p.tables e below (T8.setTop (mkF m 129 #[.val (.int p1), .val (.int p2), .val (.int p3), .val (.long q4), .second, .val (.int p5), .val (.int p6), .val (.int (Int32.ofNat 2)), .val (.int (Int32.ofNat f)), .val (.int (Int32.ofNat t)), .val (.int d), .val (.int e_), .val (.ref o), .unset, .unset] [(.ref o)])) _
      refine XS.iload X8.here hx rfl (hb hby at_129) rfl ?_
      show Steps p.tables e below (T8.setTop (mkF m 131 #[.val (.int p1), .val (.int p2), .val (.int p3), .val (.long q4), .second, .val (.int p5), .val (.int p6), .val (.int (Int32.ofNat 2)), .val (.int (Int32.ofNat f)), .val (.int (Int32.ofNat t)), .val (.int d), .val (.int e_), .val (.ref o), .unset, .unset] [(.int (Int32.ofNat f)), (.ref o)])) _
      refine XS.iload X8.here hx rfl (hb hby at_131) rfl ?_
      show Steps p.tables e below (T8.setTop (mkF m 133 #[.val (.int p1), .val (.int p2), .val (.int p3), .val (.long q4), .second, .val (.int p5), .val (.int p6), .val (.int (Int32.ofNat 2)), .val (.int (Int32.ofNat f)), .val (.int (Int32.ofNat t)), .val (.int d), .val (.int e_), .val (.ref o), .unset, .unset] [(.int (Int32.ofNat t)), (.int (Int32.ofNat f)), (.ref o)])) _
      refine XS.iload X8.here hx rfl (hb hby at_133) rfl ?_
      show Steps p.tables e below (T8.setTop (mkF m 135 #[.val (.int p1), .val (.int p2), .val (.int p3), .val (.long q4), .second, .val (.int p5), .val (.int p6), .val (.int (Int32.ofNat 2)), .val (.int (Int32.ofNat f)), .val (.int (Int32.ofNat t)), .val (.int d), .val (.int e_), .val (.ref o), .unset, .unset] [(.int p5), (.int (Int32.ofNat t)), (.int (Int32.ofNat f)), (.ref o)])) _
      refine st9.trans ?_
      show Steps p.tables e below (T9.setTop (mkF m 138 #[.val (.int p1), .val (.int p2), .val (.int p3), .val (.long q4), .second, .val (.int p5), .val (.int p6), .val (.int (Int32.ofNat 2)), .val (.int (Int32.ofNat f)), .val (.int (Int32.ofNat t)), .val (.int d), .val (.int e_), .val (.ref o), .unset, .unset] [(.int (own_fam (own_hitf (own_set (own_lv 2) (own_set (own_lv 2) (List.replicate (2 * own_lv 2) (2147483647 : Int32)) 0 p1) 1 p2) p5) (own_lv 2) f t))])) _
      rw [h2_gt]
      show Steps p.tables e below (T9.setTop (mkF m 138 #[.val (.int p1), .val (.int p2), .val (.int p3), .val (.long q4), .second, .val (.int p5), .val (.int p6), .val (.int (Int32.ofNat 2)), .val (.int (Int32.ofNat f)), .val (.int (Int32.ofNat t)), .val (.int d), .val (.int e_), .val (.ref o), .unset, .unset] [(.int gt)])) _
      refine XS.istore X9.here hx rfl (hb hby at_138) rfl (l' := #[.val (.int p1), .val (.int p2), .val (.int p3), .val (.long q4), .second, .val (.int p5), .val (.int p6), .val (.int (Int32.ofNat 2)), .val (.int (Int32.ofNat f)), .val (.int (Int32.ofNat t)), .val (.int d), .val (.int e_), .val (.ref o), .val (.int gt), .unset]) rfl ?_
      exact kt
    · obtain ⟨T10, h10, X10, e10, E10, A10, D10, -, st10⟩ := newO X0 hx hZ hown (hw _ (List.mem_of_getElem? (i := 0) rfl)) (hw _ (List.mem_of_getElem? (i := 1) rfl)) (hw _ (List.mem_of_getElem? (i := 2) rfl)) e0 (g := (mkF m 55 #[.val (.int p1), .val (.int p2), .val (.int p3), .val (.long q4), .second, .val (.int p5), .val (.int p6), .val (.int (Int32.ofNat 3)), .val (.int (Int32.ofNat f)), .val (.int (Int32.ofNat t)), .val (.int d), .val (.int e_), .unset, .unset, .unset] [])) rfl (hb hby at_55) (by decide) (by decide)
      obtain ⟨o, g10⟩ : ∃ z, z = h0.size := ⟨_, rfl⟩
      rw [← g10] at A10 D10 st10
      have gn_o : n0 ≤ o := Nat.le_trans Z0 (Nat.le_of_eq g10.symm)
      have sz10 : n0 ≤ h10.size := Nat.le_trans Z0 E10.1
      have E_o := A10
      have F1_o := D10 (Or.inr (hw _ (List.mem_of_getElem? (i := 10) rfl))) (ty := .int) (by decide)
      have F2_o := D10 (Or.inr (hw _ (List.mem_of_getElem? (i := 13) rfl))) (ty := .array .int) (by decide)
      obtain ⟨_, _, ⟨T11, L11, k11, n11⟩, -, X11, ⟨Lc11, hQ11, l11, y11, z11⟩, st11⟩ := X10.specialBack hx (y := (⟨"com/example/unknot/unknot/sp/MinTree", "<init>", "(I)V"⟩ : MethodName)) rfl hown (mvT hZ (hw _ (List.mem_of_getElem? (i := 3) rfl))) (mvT hZ (hw _ (List.mem_of_getElem? (i := 4) rfl))) (mvT hZ (hw _ (List.mem_of_getElem? (i := 5) rfl))) (by decide) (backOf (W := 1) (rm_ini l Z a0 hw [] o (Int32.ofNat 3) 3 _ _ h10 n0 sz10 rfl (by decide) (by decide) E_o F1_o F2_o gn_o) hZ (hw _ (List.mem_of_getElem? (i := 5) rfl)) (hw _ (List.mem_of_getElem? (i := 2) rfl)) (by decide) (by decide)) (g := (mkF m 61 #[.val (.int p1), .val (.int p2), .val (.int p3), .val (.long q4), .second, .val (.int p5), .val (.int p6), .val (.int (Int32.ofNat 3)), .val (.int (Int32.ofNat f)), .val (.int (Int32.ofNat t)), .val (.int d), .val (.int e_), .unset, .unset, .unset] [(.int (Int32.ofNat 3)), (.ref o), (.ref o)])) rfl (by rw [hml]; rfl) (Steps.refl _) (a := o) (argsL := [(.int (Int32.ofNat 3))]) (rest := [(.ref o)]) (lenOf own_pd2 rfl) rfl (by show 2 * 0 + _ ≤ _; exact Nat.le_of_eq rfl) (hb hby at_61) (fun _ _ => ⟨rfl, e10, (by decide : 1 + 1 ≤ _), (by decide : 2 + 16 ≤ _)⟩)
      dsimp only [Pt.U, Pt.locs, Pt.cells, Pt.slots] at X11 l11 y11 z11 st11 hQ11
      rw [l11, y11, z11] at X11
      obtain ⟨rfl, Nq11, K1, b, kc, gb, Tr0⟩ := hQ11
      have sz11 : n0 ≤ T11.heap.size := Nat.le_trans sz10 K1.1
      have N11 := Fr.app N0 Nq11
      obtain ⟨cq12, kq12, q12a, q12b, q12c⟩ := isOf hZ rfl (Tr0.1)
      obtain ⟨_, _, ⟨T12, L12, k12, n12⟩, -, X12, ⟨Lc12, hQ12, l12, y12, z12⟩, st12⟩ := X11.virtualBack hx (y := (⟨"com/example/unknot/unknot/sp/MinTree", "set", "(II)V"⟩ : MethodName)) (z := (⟨"com/example/unknot/unknot/sp/MinTree", "set", "(II)V"⟩ : MethodName)) hown (mvT hZ (hw _ (List.mem_of_getElem? (i := 19) rfl))) (mvT hZ (hw _ (List.mem_of_getElem? (i := 20) rfl))) (notFace_of_selects (args := #[]) (mvT hZ (hw _ (List.mem_of_getElem? (i := 22) rfl)))) (mvT hZ (hw _ (List.mem_of_getElem? (i := 22) rfl))) (mvT hZ (hw _ (List.mem_of_getElem? (i := 21) rfl))) (by decide) (backOf (W := 0) (rm_set l Z a0 hw [] o (0 : Int32) p1 b kc (own_lv 3) 0 (List.replicate (2 * own_lv 3) (2147483647 : Int32)) T11.heap n0 sz11 rfl (by decide) (by decide) gb Tr0) hZ (hw _ (List.mem_of_getElem? (i := 23) rfl)) (hw _ (List.mem_of_getElem? (i := 2) rfl)) (by decide) (by decide)) q12a q12c (g := (mkF m 70 #[.val (.int p1), .val (.int p2), .val (.int p3), .val (.long q4), .second, .val (.int p5), .val (.int p6), .val (.int (Int32.ofNat 3)), .val (.int (Int32.ofNat f)), .val (.int (Int32.ofNat t)), .val (.int d), .val (.int e_), .val (.ref o), .unset, .unset] [(.int p1), (.int (0 : Int32)), (.ref o)])) rfl (by rw [hml]; rfl) (Steps.refl _) (argsL := [(.int (0 : Int32)), (.int p1)]) (rest := []) (lenOf own_pd3 rfl) rfl (by show 2 * 0 + _ ≤ _; exact Nat.le_of_eq rfl) (hb hby at_70) (fun _ _ => ⟨rfl, rfl, (by decide : 2 + 0 ≤ _), (by decide : 18 + 0 ≤ _)⟩)
      dsimp only [Pt.U, Pt.locs, Pt.cells, Pt.slots] at X12 l12 y12 z12 st12 hQ12
      rw [l12, y12, z12] at X12
      obtain ⟨rfl, Nq12, K2, Tr1⟩ := hQ12
      have sz12 : n0 ≤ T12.heap.size := Nat.le_trans sz11 K2.1
      have N12 := Fr.app N11 Nq12
      obtain ⟨cq13, kq13, q13a, q13b, q13c⟩ := isOf hZ rfl (Tr1.1)
      obtain ⟨_, _, ⟨T13, L13, k13, n13⟩, -, X13, ⟨Lc13, hQ13, l13, y13, z13⟩, st13⟩ := X12.virtualBack hx (y := (⟨"com/example/unknot/unknot/sp/MinTree", "set", "(II)V"⟩ : MethodName)) (z := (⟨"com/example/unknot/unknot/sp/MinTree", "set", "(II)V"⟩ : MethodName)) hown (mvT hZ (hw _ (List.mem_of_getElem? (i := 19) rfl))) (mvT hZ (hw _ (List.mem_of_getElem? (i := 20) rfl))) (notFace_of_selects (args := #[]) (mvT hZ (hw _ (List.mem_of_getElem? (i := 22) rfl)))) (mvT hZ (hw _ (List.mem_of_getElem? (i := 22) rfl))) (mvT hZ (hw _ (List.mem_of_getElem? (i := 21) rfl))) (by decide) (backOf (W := 0) (rm_set l Z a0 hw [] o (1 : Int32) p2 b kc (own_lv 3) 1 (own_set (own_lv 3) (List.replicate (2 * own_lv 3) (2147483647 : Int32)) 0 p1) T12.heap n0 sz12 rfl (by decide) (by decide) gb Tr1) hZ (hw _ (List.mem_of_getElem? (i := 23) rfl)) (hw _ (List.mem_of_getElem? (i := 2) rfl)) (by decide) (by decide)) q13a q13c (g := (mkF m 83 #[.val (.int p1), .val (.int p2), .val (.int p3), .val (.long q4), .second, .val (.int p5), .val (.int p6), .val (.int (Int32.ofNat 3)), .val (.int (Int32.ofNat f)), .val (.int (Int32.ofNat t)), .val (.int d), .val (.int e_), .val (.ref o), .unset, .unset] [(.int p2), (.int (1 : Int32)), (.ref o)])) rfl (by rw [hml]; rfl) (Steps.refl _) (argsL := [(.int (1 : Int32)), (.int p2)]) (rest := []) (lenOf own_pd3 rfl) rfl (by show 2 * 0 + _ ≤ _; exact Nat.le_of_eq rfl) (hb hby at_83) (fun _ _ => ⟨rfl, rfl, (by decide : 2 + 0 ≤ _), (by decide : 18 + 0 ≤ _)⟩)
      dsimp only [Pt.U, Pt.locs, Pt.cells, Pt.slots] at X13 l13 y13 z13 st13 hQ13
      rw [l13, y13, z13] at X13
      obtain ⟨rfl, Nq13, K3, Tr2⟩ := hQ13
      have sz13 : n0 ≤ T13.heap.size := Nat.le_trans sz12 K3.1
      have N13 := Fr.app N12 Nq13
      obtain ⟨cq14, kq14, q14a, q14b, q14c⟩ := isOf hZ rfl (Tr2.1)
      obtain ⟨_, _, ⟨T14, L14, k14, n14⟩, -, X14, ⟨Lc14, hQ14, l14, y14, z14⟩, st14⟩ := X13.virtualBack hx (y := (⟨"com/example/unknot/unknot/sp/MinTree", "set", "(II)V"⟩ : MethodName)) (z := (⟨"com/example/unknot/unknot/sp/MinTree", "set", "(II)V"⟩ : MethodName)) hown (mvT hZ (hw _ (List.mem_of_getElem? (i := 19) rfl))) (mvT hZ (hw _ (List.mem_of_getElem? (i := 20) rfl))) (notFace_of_selects (args := #[]) (mvT hZ (hw _ (List.mem_of_getElem? (i := 22) rfl)))) (mvT hZ (hw _ (List.mem_of_getElem? (i := 22) rfl))) (mvT hZ (hw _ (List.mem_of_getElem? (i := 21) rfl))) (by decide) (backOf (W := 0) (rm_set l Z a0 hw [] o (2 : Int32) p3 b kc (own_lv 3) 2 (own_set (own_lv 3) (own_set (own_lv 3) (List.replicate (2 * own_lv 3) (2147483647 : Int32)) 0 p1) 1 p2) T13.heap n0 sz13 rfl (by decide) (by decide) gb Tr2) hZ (hw _ (List.mem_of_getElem? (i := 23) rfl)) (hw _ (List.mem_of_getElem? (i := 2) rfl)) (by decide) (by decide)) q14a q14c (g := (mkF m 96 #[.val (.int p1), .val (.int p2), .val (.int p3), .val (.long q4), .second, .val (.int p5), .val (.int p6), .val (.int (Int32.ofNat 3)), .val (.int (Int32.ofNat f)), .val (.int (Int32.ofNat t)), .val (.int d), .val (.int e_), .val (.ref o), .unset, .unset] [(.int p3), (.int (2 : Int32)), (.ref o)])) rfl (by rw [hml]; rfl) (Steps.refl _) (argsL := [(.int (2 : Int32)), (.int p3)]) (rest := []) (lenOf own_pd3 rfl) rfl (by show 2 * 0 + _ ≤ _; exact Nat.le_of_eq rfl) (hb hby at_96) (fun _ _ => ⟨rfl, rfl, (by decide : 2 + 0 ≤ _), (by decide : 18 + 0 ≤ _)⟩)
      dsimp only [Pt.U, Pt.locs, Pt.cells, Pt.slots] at X14 l14 y14 z14 st14 hQ14
      rw [l14, y14, z14] at X14
      obtain ⟨rfl, Nq14, K4, Tr3⟩ := hQ14
      have sz14 : n0 ≤ T14.heap.size := Nat.le_trans sz13 K4.1
      have N14 := Fr.app N13 Nq14
      obtain ⟨cq15, kq15, q15a, q15b, q15c⟩ := isOf hZ rfl (Tr3.1)
      obtain ⟨_, _, ⟨T15, L15, k15, n15⟩, -, X15, ⟨Lc15, hQ15, l15, y15, z15⟩, st15⟩ := X14.virtualBack hx (y := (⟨"com/example/unknot/unknot/sp/MinTree", "firstAtMost", "(III)I"⟩ : MethodName)) (z := (⟨"com/example/unknot/unknot/sp/MinTree", "firstAtMost", "(III)I"⟩ : MethodName)) hown (mvT hZ (hw _ (List.mem_of_getElem? (i := 28) rfl))) (mvT hZ (hw _ (List.mem_of_getElem? (i := 29) rfl))) (notFace_of_selects (args := #[]) (mvT hZ (hw _ (List.mem_of_getElem? (i := 31) rfl)))) (mvT hZ (hw _ (List.mem_of_getElem? (i := 31) rfl))) (mvT hZ (hw _ (List.mem_of_getElem? (i := 30) rfl))) (by decide) (backOf (W := 0) (rm_fam l Z a0 hw [] o (Int32.ofNat f) (Int32.ofNat t) p5 b kc (own_lv 3) f t (own_set (own_lv 3) (own_set (own_lv 3) (own_set (own_lv 3) (List.replicate (2 * own_lv 3) (2147483647 : Int32)) 0 p1) 1 p2) 2 p3) T14.heap n0 sz14 rfl rfl (by decide) (Nat.le_trans ht (by decide)) (Nat.le_trans hf (by decide)) Tr3) hZ (hw _ (List.mem_of_getElem? (i := 32) rfl)) (hw _ (List.mem_of_getElem? (i := 2) rfl)) (by decide) (by decide)) q15a q15c (g := (mkF m 135 #[.val (.int p1), .val (.int p2), .val (.int p3), .val (.long q4), .second, .val (.int p5), .val (.int p6), .val (.int (Int32.ofNat 3)), .val (.int (Int32.ofNat f)), .val (.int (Int32.ofNat t)), .val (.int d), .val (.int e_), .val (.ref o), .unset, .unset] [(.int p5), (.int (Int32.ofNat t)), (.int (Int32.ofNat f)), (.ref o)])) rfl (by rw [hml]; rfl) (Steps.refl _) (argsL := [(.int (Int32.ofNat f)), (.int (Int32.ofNat t)), (.int p5)]) (rest := []) (lenOf own_pd4 rfl) rfl (by show 2 * 0 + _ ≤ _; exact Nat.le_of_eq rfl) (hb hby at_135) (fun _ _ => ⟨rfl, rfl, (by decide : 2 + 0 ≤ _), (by decide : 18 + 0 ≤ _)⟩)
      dsimp only [Pt.U, Pt.locs, Pt.cells, Pt.slots] at X15 l15 y15 z15 st15 hQ15
      rw [l15, y15, z15] at X15
      obtain ⟨rfl, Nq15, e15⟩ := hQ15
      have N15 := Fr.app N14 Nq15
      obtain ⟨gt, h_gt⟩ : ∃ z : Int32, z = (own_fam (own_hitf (own_set (own_lv 3) (own_set (own_lv 3) (own_set (own_lv 3) (List.replicate (2 * own_lv 3) (2147483647 : Int32)) 0 p1) 1 p2) 2 p3) p5) (own_lv 3) f t) := ⟨_, rfl⟩
      have h2_gt : (own_fam (own_hitf (own_set (own_lv 3) (own_set (own_lv 3) (own_set (own_lv 3) (List.replicate (2 * own_lv 3) (2147483647 : Int32)) 0 p1) 1 p2) 2 p3) p5) (own_lv 3) f t) = gt := h_gt.symm
      have hgt : gt = own_want p1 p2 p3 d e_ (Int32.ofNat f) (Int32.ofNat t) p5 := h_gt.trans (own_case3 p1 p2 p3 d e_ p5 f t hf ht)
      refine ⟨o, gt, T15, _, X15, N15, by rw [e15]; exact sz14, hgt, fun t_ kt => ?_⟩
      show Steps p.tables e below (s₁.setTop (mkF m 55 #[.val (.int p1), .val (.int p2), .val (.int p3), .val (.long q4), .second, .val (.int p5), .val (.int p6), .val (.int (Int32.ofNat 3)), .val (.int (Int32.ofNat f)), .val (.int (Int32.ofNat t)), .val (.int d), .val (.int e_), .unset, .unset, .unset] [])) _
      refine st10 _ ?_
      show Steps p.tables e below (T10.setTop (mkF m 58 #[.val (.int p1), .val (.int p2), .val (.int p3), .val (.long q4), .second, .val (.int p5), .val (.int p6), .val (.int (Int32.ofNat 3)), .val (.int (Int32.ofNat f)), .val (.int (Int32.ofNat t)), .val (.int d), .val (.int e_), .unset, .unset, .unset] [(.ref o)])) _
      refine XS.dup X10.here hx rfl (hb hby at_58) rfl rfl ?_
      show Steps p.tables e below (T10.setTop (mkF m 59 #[.val (.int p1), .val (.int p2), .val (.int p3), .val (.long q4), .second, .val (.int p5), .val (.int p6), .val (.int (Int32.ofNat 3)), .val (.int (Int32.ofNat f)), .val (.int (Int32.ofNat t)), .val (.int d), .val (.int e_), .unset, .unset, .unset] [(.ref o), (.ref o)])) _
      refine XS.iload X10.here hx rfl (hb hby at_59) rfl ?_
      show Steps p.tables e below (T10.setTop (mkF m 61 #[.val (.int p1), .val (.int p2), .val (.int p3), .val (.long q4), .second, .val (.int p5), .val (.int p6), .val (.int (Int32.ofNat 3)), .val (.int (Int32.ofNat f)), .val (.int (Int32.ofNat t)), .val (.int d), .val (.int e_), .unset, .unset, .unset] [(.int (Int32.ofNat 3)), (.ref o), (.ref o)])) _
      refine st11.trans ?_
      show Steps p.tables e below (T11.setTop (mkF m 64 #[.val (.int p1), .val (.int p2), .val (.int p3), .val (.long q4), .second, .val (.int p5), .val (.int p6), .val (.int (Int32.ofNat 3)), .val (.int (Int32.ofNat f)), .val (.int (Int32.ofNat t)), .val (.int d), .val (.int e_), .unset, .unset, .unset] [(.ref o)])) _
      refine XS.astore X11.here hx rfl (hb hby at_64) rfl rfl (l' := #[.val (.int p1), .val (.int p2), .val (.int p3), .val (.long q4), .second, .val (.int p5), .val (.int p6), .val (.int (Int32.ofNat 3)), .val (.int (Int32.ofNat f)), .val (.int (Int32.ofNat t)), .val (.int d), .val (.int e_), .val (.ref o), .unset, .unset]) rfl ?_
      show Steps p.tables e below (T11.setTop (mkF m 66 #[.val (.int p1), .val (.int p2), .val (.int p3), .val (.long q4), .second, .val (.int p5), .val (.int p6), .val (.int (Int32.ofNat 3)), .val (.int (Int32.ofNat f)), .val (.int (Int32.ofNat t)), .val (.int d), .val (.int e_), .val (.ref o), .unset, .unset] [])) _
      refine XS.aload X11.here hx rfl (hb hby at_66) rfl rfl ?_
      show Steps p.tables e below (T11.setTop (mkF m 68 #[.val (.int p1), .val (.int p2), .val (.int p3), .val (.long q4), .second, .val (.int p5), .val (.int p6), .val (.int (Int32.ofNat 3)), .val (.int (Int32.ofNat f)), .val (.int (Int32.ofNat t)), .val (.int d), .val (.int e_), .val (.ref o), .unset, .unset] [(.ref o)])) _
      refine XS.iconst X11.here hx rfl (hb hby at_68) ?_
      show Steps p.tables e below (T11.setTop (mkF m 69 #[.val (.int p1), .val (.int p2), .val (.int p3), .val (.long q4), .second, .val (.int p5), .val (.int p6), .val (.int (Int32.ofNat 3)), .val (.int (Int32.ofNat f)), .val (.int (Int32.ofNat t)), .val (.int d), .val (.int e_), .val (.ref o), .unset, .unset] [(.int (0 : Int32)), (.ref o)])) _
      refine XS.iloadN X11.here hx rfl (hb hby at_69) rfl ?_
      show Steps p.tables e below (T11.setTop (mkF m 70 #[.val (.int p1), .val (.int p2), .val (.int p3), .val (.long q4), .second, .val (.int p5), .val (.int p6), .val (.int (Int32.ofNat 3)), .val (.int (Int32.ofNat f)), .val (.int (Int32.ofNat t)), .val (.int d), .val (.int e_), .val (.ref o), .unset, .unset] [(.int p1), (.int (0 : Int32)), (.ref o)])) _
      refine st12.trans ?_
      show Steps p.tables e below (T12.setTop (mkF m 73 #[.val (.int p1), .val (.int p2), .val (.int p3), .val (.long q4), .second, .val (.int p5), .val (.int p6), .val (.int (Int32.ofNat 3)), .val (.int (Int32.ofNat f)), .val (.int (Int32.ofNat t)), .val (.int d), .val (.int e_), .val (.ref o), .unset, .unset] [])) _
      refine XS.iload X12.here hx rfl (hb hby at_73) rfl ?_
      show Steps p.tables e below (T12.setTop (mkF m 75 #[.val (.int p1), .val (.int p2), .val (.int p3), .val (.long q4), .second, .val (.int p5), .val (.int p6), .val (.int (Int32.ofNat 3)), .val (.int (Int32.ofNat f)), .val (.int (Int32.ofNat t)), .val (.int d), .val (.int e_), .val (.ref o), .unset, .unset] [(.int (Int32.ofNat 3))])) _
      refine XS.iconst X12.here hx rfl (hb hby at_75) ?_
      show Steps p.tables e below (T12.setTop (mkF m 76 #[.val (.int p1), .val (.int p2), .val (.int p3), .val (.long q4), .second, .val (.int p5), .val (.int p6), .val (.int (Int32.ofNat 3)), .val (.int (Int32.ofNat f)), .val (.int (Int32.ofNat t)), .val (.int d), .val (.int e_), .val (.ref o), .unset, .unset] [(.int (1 : Int32)), (.int (Int32.ofNat 3))])) _
      refine XS.icmpNo X12.here hx rfl (hb hby at_76) rfl (tlt (by decide)).2.2.2 ?_
      show Steps p.tables e below (T12.setTop (mkF m 79 #[.val (.int p1), .val (.int p2), .val (.int p3), .val (.long q4), .second, .val (.int p5), .val (.int p6), .val (.int (Int32.ofNat 3)), .val (.int (Int32.ofNat f)), .val (.int (Int32.ofNat t)), .val (.int d), .val (.int e_), .val (.ref o), .unset, .unset] [])) _
      refine XS.aload X12.here hx rfl (hb hby at_79) rfl rfl ?_
      show Steps p.tables e below (T12.setTop (mkF m 81 #[.val (.int p1), .val (.int p2), .val (.int p3), .val (.long q4), .second, .val (.int p5), .val (.int p6), .val (.int (Int32.ofNat 3)), .val (.int (Int32.ofNat f)), .val (.int (Int32.ofNat t)), .val (.int d), .val (.int e_), .val (.ref o), .unset, .unset] [(.ref o)])) _
      refine XS.iconst X12.here hx rfl (hb hby at_81) ?_
      show Steps p.tables e below (T12.setTop (mkF m 82 #[.val (.int p1), .val (.int p2), .val (.int p3), .val (.long q4), .second, .val (.int p5), .val (.int p6), .val (.int (Int32.ofNat 3)), .val (.int (Int32.ofNat f)), .val (.int (Int32.ofNat t)), .val (.int d), .val (.int e_), .val (.ref o), .unset, .unset] [(.int (1 : Int32)), (.ref o)])) _
      refine XS.iloadN X12.here hx rfl (hb hby at_82) rfl ?_
      show Steps p.tables e below (T12.setTop (mkF m 83 #[.val (.int p1), .val (.int p2), .val (.int p3), .val (.long q4), .second, .val (.int p5), .val (.int p6), .val (.int (Int32.ofNat 3)), .val (.int (Int32.ofNat f)), .val (.int (Int32.ofNat t)), .val (.int d), .val (.int e_), .val (.ref o), .unset, .unset] [(.int p2), (.int (1 : Int32)), (.ref o)])) _
      refine st13.trans ?_
      show Steps p.tables e below (T13.setTop (mkF m 86 #[.val (.int p1), .val (.int p2), .val (.int p3), .val (.long q4), .second, .val (.int p5), .val (.int p6), .val (.int (Int32.ofNat 3)), .val (.int (Int32.ofNat f)), .val (.int (Int32.ofNat t)), .val (.int d), .val (.int e_), .val (.ref o), .unset, .unset] [])) _
      refine XS.iload X13.here hx rfl (hb hby at_86) rfl ?_
      show Steps p.tables e below (T13.setTop (mkF m 88 #[.val (.int p1), .val (.int p2), .val (.int p3), .val (.long q4), .second, .val (.int p5), .val (.int p6), .val (.int (Int32.ofNat 3)), .val (.int (Int32.ofNat f)), .val (.int (Int32.ofNat t)), .val (.int d), .val (.int e_), .val (.ref o), .unset, .unset] [(.int (Int32.ofNat 3))])) _
      refine XS.iconst X13.here hx rfl (hb hby at_88) ?_
      show Steps p.tables e below (T13.setTop (mkF m 89 #[.val (.int p1), .val (.int p2), .val (.int p3), .val (.long q4), .second, .val (.int p5), .val (.int p6), .val (.int (Int32.ofNat 3)), .val (.int (Int32.ofNat f)), .val (.int (Int32.ofNat t)), .val (.int d), .val (.int e_), .val (.ref o), .unset, .unset] [(.int (2 : Int32)), (.int (Int32.ofNat 3))])) _
      refine XS.icmpNo X13.here hx rfl (hb hby at_89) rfl (tlt (by decide)).2.2.2 ?_
      show Steps p.tables e below (T13.setTop (mkF m 92 #[.val (.int p1), .val (.int p2), .val (.int p3), .val (.long q4), .second, .val (.int p5), .val (.int p6), .val (.int (Int32.ofNat 3)), .val (.int (Int32.ofNat f)), .val (.int (Int32.ofNat t)), .val (.int d), .val (.int e_), .val (.ref o), .unset, .unset] [])) _
      refine XS.aload X13.here hx rfl (hb hby at_92) rfl rfl ?_
      show Steps p.tables e below (T13.setTop (mkF m 94 #[.val (.int p1), .val (.int p2), .val (.int p3), .val (.long q4), .second, .val (.int p5), .val (.int p6), .val (.int (Int32.ofNat 3)), .val (.int (Int32.ofNat f)), .val (.int (Int32.ofNat t)), .val (.int d), .val (.int e_), .val (.ref o), .unset, .unset] [(.ref o)])) _
      refine XS.iconst X13.here hx rfl (hb hby at_94) ?_
      show Steps p.tables e below (T13.setTop (mkF m 95 #[.val (.int p1), .val (.int p2), .val (.int p3), .val (.long q4), .second, .val (.int p5), .val (.int p6), .val (.int (Int32.ofNat 3)), .val (.int (Int32.ofNat f)), .val (.int (Int32.ofNat t)), .val (.int d), .val (.int e_), .val (.ref o), .unset, .unset] [(.int (2 : Int32)), (.ref o)])) _
      refine XS.iloadN X13.here hx rfl (hb hby at_95) rfl ?_
      show Steps p.tables e below (T13.setTop (mkF m 96 #[.val (.int p1), .val (.int p2), .val (.int p3), .val (.long q4), .second, .val (.int p5), .val (.int p6), .val (.int (Int32.ofNat 3)), .val (.int (Int32.ofNat f)), .val (.int (Int32.ofNat t)), .val (.int d), .val (.int e_), .val (.ref o), .unset, .unset] [(.int p3), (.int (2 : Int32)), (.ref o)])) _
      refine st14.trans ?_
      show Steps p.tables e below (T14.setTop (mkF m 99 #[.val (.int p1), .val (.int p2), .val (.int p3), .val (.long q4), .second, .val (.int p5), .val (.int p6), .val (.int (Int32.ofNat 3)), .val (.int (Int32.ofNat f)), .val (.int (Int32.ofNat t)), .val (.int d), .val (.int e_), .val (.ref o), .unset, .unset] [])) _
      refine XS.iload X14.here hx rfl (hb hby at_99) rfl ?_
      show Steps p.tables e below (T14.setTop (mkF m 101 #[.val (.int p1), .val (.int p2), .val (.int p3), .val (.long q4), .second, .val (.int p5), .val (.int p6), .val (.int (Int32.ofNat 3)), .val (.int (Int32.ofNat f)), .val (.int (Int32.ofNat t)), .val (.int d), .val (.int e_), .val (.ref o), .unset, .unset] [(.int (Int32.ofNat 3))])) _
      refine XS.iconst X14.here hx rfl (hb hby at_101) ?_
      show Steps p.tables e below (T14.setTop (mkF m 102 #[.val (.int p1), .val (.int p2), .val (.int p3), .val (.long q4), .second, .val (.int p5), .val (.int p6), .val (.int (Int32.ofNat 3)), .val (.int (Int32.ofNat f)), .val (.int (Int32.ofNat t)), .val (.int d), .val (.int e_), .val (.ref o), .unset, .unset] [(.int (3 : Int32)), (.int (Int32.ofNat 3))])) _
      refine XS.icmpYes X14.here hx rfl (pc0 := 102) (pc' := 113) rfl (hb hby at_102) rfl (flt (by decide)).2.2.2 (by decide) (by decide) ?_
      show Steps p.tables e below (T14.setTop (mkF m 113 #[.val (.int p1), .val (.int p2), .val (.int p3), .val (.long q4), .second, .val (.int p5), .val (.int p6), .val (.int (Int32.ofNat 3)), .val (.int (Int32.ofNat f)), .val (.int (Int32.ofNat t)), .val (.int d), .val (.int e_), .val (.ref o), .unset, .unset] [])) _
      refine XS.iload X14.here hx rfl (hb hby at_113) rfl ?_
      show Steps p.tables e below (T14.setTop (mkF m 115 #[.val (.int p1), .val (.int p2), .val (.int p3), .val (.long q4), .second, .val (.int p5), .val (.int p6), .val (.int (Int32.ofNat 3)), .val (.int (Int32.ofNat f)), .val (.int (Int32.ofNat t)), .val (.int d), .val (.int e_), .val (.ref o), .unset, .unset] [(.int (Int32.ofNat 3))])) _
      refine XS.iconst X14.here hx rfl (hb hby at_115) ?_
      show Steps p.tables e below (T14.setTop (mkF m 116 #[.val (.int p1), .val (.int p2), .val (.int p3), .val (.long q4), .second, .val (.int p5), .val (.int p6), .val (.int (Int32.ofNat 3)), .val (.int (Int32.ofNat f)), .val (.int (Int32.ofNat t)), .val (.int d), .val (.int e_), .val (.ref o), .unset, .unset] [(.int (4 : Int32)), (.int (Int32.ofNat 3))])) _
      refine XS.icmpYes X14.here hx rfl (pc0 := 116) (pc' := 127) rfl (hb hby at_116) rfl (flt (by decide)).2.2.2 (by decide) (by decide) ?_
      show Steps p.tables e below (T14.setTop (mkF m 127 #[.val (.int p1), .val (.int p2), .val (.int p3), .val (.long q4), .second, .val (.int p5), .val (.int p6), .val (.int (Int32.ofNat 3)), .val (.int (Int32.ofNat f)), .val (.int (Int32.ofNat t)), .val (.int d), .val (.int e_), .val (.ref o), .unset, .unset] [])) _
      refine XS.aload X14.here hx rfl (hb hby at_127) rfl rfl ?_
      show Steps p.tables e below (T14.setTop (mkF m 129 #[.val (.int p1), .val (.int p2), .val (.int p3), .val (.long q4), .second, .val (.int p5), .val (.int p6), .val (.int (Int32.ofNat 3)), .val (.int (Int32.ofNat f)), .val (.int (Int32.ofNat t)), .val (.int d), .val (.int e_), .val (.ref o), .unset, .unset] [(.ref o)])) _
      refine XS.iload X14.here hx rfl (hb hby at_129) rfl ?_
      show Steps p.tables e below (T14.setTop (mkF m 131 #[.val (.int p1), .val (.int p2), .val (.int p3), .val (.long q4), .second, .val (.int p5), .val (.int p6), .val (.int (Int32.ofNat 3)), .val (.int (Int32.ofNat f)), .val (.int (Int32.ofNat t)), .val (.int d), .val (.int e_), .val (.ref o), .unset, .unset] [(.int (Int32.ofNat f)), (.ref o)])) _
      refine XS.iload X14.here hx rfl (hb hby at_131) rfl ?_
      show Steps p.tables e below (T14.setTop (mkF m 133 #[.val (.int p1), .val (.int p2), .val (.int p3), .val (.long q4), .second, .val (.int p5), .val (.int p6), .val (.int (Int32.ofNat 3)), .val (.int (Int32.ofNat f)), .val (.int (Int32.ofNat t)), .val (.int d), .val (.int e_), .val (.ref o), .unset, .unset] [(.int (Int32.ofNat t)), (.int (Int32.ofNat f)), (.ref o)])) _
      refine XS.iload X14.here hx rfl (hb hby at_133) rfl ?_
      show Steps p.tables e below (T14.setTop (mkF m 135 #[.val (.int p1), .val (.int p2), .val (.int p3), .val (.long q4), .second, .val (.int p5), .val (.int p6), .val (.int (Int32.ofNat 3)), .val (.int (Int32.ofNat f)), .val (.int (Int32.ofNat t)), .val (.int d), .val (.int e_), .val (.ref o), .unset, .unset] [(.int p5), (.int (Int32.ofNat t)), (.int (Int32.ofNat f)), (.ref o)])) _
      refine st15.trans ?_
      show Steps p.tables e below (T15.setTop (mkF m 138 #[.val (.int p1), .val (.int p2), .val (.int p3), .val (.long q4), .second, .val (.int p5), .val (.int p6), .val (.int (Int32.ofNat 3)), .val (.int (Int32.ofNat f)), .val (.int (Int32.ofNat t)), .val (.int d), .val (.int e_), .val (.ref o), .unset, .unset] [(.int (own_fam (own_hitf (own_set (own_lv 3) (own_set (own_lv 3) (own_set (own_lv 3) (List.replicate (2 * own_lv 3) (2147483647 : Int32)) 0 p1) 1 p2) 2 p3) p5) (own_lv 3) f t))])) _
      rw [h2_gt]
      show Steps p.tables e below (T15.setTop (mkF m 138 #[.val (.int p1), .val (.int p2), .val (.int p3), .val (.long q4), .second, .val (.int p5), .val (.int p6), .val (.int (Int32.ofNat 3)), .val (.int (Int32.ofNat f)), .val (.int (Int32.ofNat t)), .val (.int d), .val (.int e_), .val (.ref o), .unset, .unset] [(.int gt)])) _
      refine XS.istore X15.here hx rfl (hb hby at_138) rfl (l' := #[.val (.int p1), .val (.int p2), .val (.int p3), .val (.long q4), .second, .val (.int p5), .val (.int p6), .val (.int (Int32.ofNat 3)), .val (.int (Int32.ofNat f)), .val (.int (Int32.ofNat t)), .val (.int d), .val (.int e_), .val (.ref o), .val (.int gt), .unset]) rfl ?_
      exact kt
    · obtain ⟨T16, h16, X16, e16, E16, A16, D16, -, st16⟩ := newO X0 hx hZ hown (hw _ (List.mem_of_getElem? (i := 0) rfl)) (hw _ (List.mem_of_getElem? (i := 1) rfl)) (hw _ (List.mem_of_getElem? (i := 2) rfl)) e0 (g := (mkF m 55 #[.val (.int p1), .val (.int p2), .val (.int p3), .val (.long q4), .second, .val (.int p5), .val (.int p6), .val (.int (Int32.ofNat 4)), .val (.int (Int32.ofNat f)), .val (.int (Int32.ofNat t)), .val (.int d), .val (.int e_), .unset, .unset, .unset] [])) rfl (hb hby at_55) (by decide) (by decide)
      obtain ⟨o, g16⟩ : ∃ z, z = h0.size := ⟨_, rfl⟩
      rw [← g16] at A16 D16 st16
      have gn_o : n0 ≤ o := Nat.le_trans Z0 (Nat.le_of_eq g16.symm)
      have sz16 : n0 ≤ h16.size := Nat.le_trans Z0 E16.1
      have E_o := A16
      have F1_o := D16 (Or.inr (hw _ (List.mem_of_getElem? (i := 10) rfl))) (ty := .int) (by decide)
      have F2_o := D16 (Or.inr (hw _ (List.mem_of_getElem? (i := 13) rfl))) (ty := .array .int) (by decide)
      obtain ⟨_, _, ⟨T17, L17, k17, n17⟩, -, X17, ⟨Lc17, hQ17, l17, y17, z17⟩, st17⟩ := X16.specialBack hx (y := (⟨"com/example/unknot/unknot/sp/MinTree", "<init>", "(I)V"⟩ : MethodName)) rfl hown (mvT hZ (hw _ (List.mem_of_getElem? (i := 3) rfl))) (mvT hZ (hw _ (List.mem_of_getElem? (i := 4) rfl))) (mvT hZ (hw _ (List.mem_of_getElem? (i := 5) rfl))) (by decide) (backOf (W := 1) (rm_ini l Z a0 hw [] o (Int32.ofNat 4) 4 _ _ h16 n0 sz16 rfl (by decide) (by decide) E_o F1_o F2_o gn_o) hZ (hw _ (List.mem_of_getElem? (i := 5) rfl)) (hw _ (List.mem_of_getElem? (i := 2) rfl)) (by decide) (by decide)) (g := (mkF m 61 #[.val (.int p1), .val (.int p2), .val (.int p3), .val (.long q4), .second, .val (.int p5), .val (.int p6), .val (.int (Int32.ofNat 4)), .val (.int (Int32.ofNat f)), .val (.int (Int32.ofNat t)), .val (.int d), .val (.int e_), .unset, .unset, .unset] [(.int (Int32.ofNat 4)), (.ref o), (.ref o)])) rfl (by rw [hml]; rfl) (Steps.refl _) (a := o) (argsL := [(.int (Int32.ofNat 4))]) (rest := [(.ref o)]) (lenOf own_pd2 rfl) rfl (by show 2 * 0 + _ ≤ _; exact Nat.le_of_eq rfl) (hb hby at_61) (fun _ _ => ⟨rfl, e16, (by decide : 1 + 1 ≤ _), (by decide : 2 + 16 ≤ _)⟩)
      dsimp only [Pt.U, Pt.locs, Pt.cells, Pt.slots] at X17 l17 y17 z17 st17 hQ17
      rw [l17, y17, z17] at X17
      obtain ⟨rfl, Nq17, K1, b, kc, gb, Tr0⟩ := hQ17
      have sz17 : n0 ≤ T17.heap.size := Nat.le_trans sz16 K1.1
      have N17 := Fr.app N0 Nq17
      obtain ⟨cq18, kq18, q18a, q18b, q18c⟩ := isOf hZ rfl (Tr0.1)
      obtain ⟨_, _, ⟨T18, L18, k18, n18⟩, -, X18, ⟨Lc18, hQ18, l18, y18, z18⟩, st18⟩ := X17.virtualBack hx (y := (⟨"com/example/unknot/unknot/sp/MinTree", "set", "(II)V"⟩ : MethodName)) (z := (⟨"com/example/unknot/unknot/sp/MinTree", "set", "(II)V"⟩ : MethodName)) hown (mvT hZ (hw _ (List.mem_of_getElem? (i := 19) rfl))) (mvT hZ (hw _ (List.mem_of_getElem? (i := 20) rfl))) (notFace_of_selects (args := #[]) (mvT hZ (hw _ (List.mem_of_getElem? (i := 22) rfl)))) (mvT hZ (hw _ (List.mem_of_getElem? (i := 22) rfl))) (mvT hZ (hw _ (List.mem_of_getElem? (i := 21) rfl))) (by decide) (backOf (W := 0) (rm_set l Z a0 hw [] o (0 : Int32) p1 b kc (own_lv 4) 0 (List.replicate (2 * own_lv 4) (2147483647 : Int32)) T17.heap n0 sz17 rfl (by decide) (by decide) gb Tr0) hZ (hw _ (List.mem_of_getElem? (i := 23) rfl)) (hw _ (List.mem_of_getElem? (i := 2) rfl)) (by decide) (by decide)) q18a q18c (g := (mkF m 70 #[.val (.int p1), .val (.int p2), .val (.int p3), .val (.long q4), .second, .val (.int p5), .val (.int p6), .val (.int (Int32.ofNat 4)), .val (.int (Int32.ofNat f)), .val (.int (Int32.ofNat t)), .val (.int d), .val (.int e_), .val (.ref o), .unset, .unset] [(.int p1), (.int (0 : Int32)), (.ref o)])) rfl (by rw [hml]; rfl) (Steps.refl _) (argsL := [(.int (0 : Int32)), (.int p1)]) (rest := []) (lenOf own_pd3 rfl) rfl (by show 2 * 0 + _ ≤ _; exact Nat.le_of_eq rfl) (hb hby at_70) (fun _ _ => ⟨rfl, rfl, (by decide : 2 + 0 ≤ _), (by decide : 18 + 0 ≤ _)⟩)
      dsimp only [Pt.U, Pt.locs, Pt.cells, Pt.slots] at X18 l18 y18 z18 st18 hQ18
      rw [l18, y18, z18] at X18
      obtain ⟨rfl, Nq18, K2, Tr1⟩ := hQ18
      have sz18 : n0 ≤ T18.heap.size := Nat.le_trans sz17 K2.1
      have N18 := Fr.app N17 Nq18
      obtain ⟨cq19, kq19, q19a, q19b, q19c⟩ := isOf hZ rfl (Tr1.1)
      obtain ⟨_, _, ⟨T19, L19, k19, n19⟩, -, X19, ⟨Lc19, hQ19, l19, y19, z19⟩, st19⟩ := X18.virtualBack hx (y := (⟨"com/example/unknot/unknot/sp/MinTree", "set", "(II)V"⟩ : MethodName)) (z := (⟨"com/example/unknot/unknot/sp/MinTree", "set", "(II)V"⟩ : MethodName)) hown (mvT hZ (hw _ (List.mem_of_getElem? (i := 19) rfl))) (mvT hZ (hw _ (List.mem_of_getElem? (i := 20) rfl))) (notFace_of_selects (args := #[]) (mvT hZ (hw _ (List.mem_of_getElem? (i := 22) rfl)))) (mvT hZ (hw _ (List.mem_of_getElem? (i := 22) rfl))) (mvT hZ (hw _ (List.mem_of_getElem? (i := 21) rfl))) (by decide) (backOf (W := 0) (rm_set l Z a0 hw [] o (1 : Int32) p2 b kc (own_lv 4) 1 (own_set (own_lv 4) (List.replicate (2 * own_lv 4) (2147483647 : Int32)) 0 p1) T18.heap n0 sz18 rfl (by decide) (by decide) gb Tr1) hZ (hw _ (List.mem_of_getElem? (i := 23) rfl)) (hw _ (List.mem_of_getElem? (i := 2) rfl)) (by decide) (by decide)) q19a q19c (g := (mkF m 83 #[.val (.int p1), .val (.int p2), .val (.int p3), .val (.long q4), .second, .val (.int p5), .val (.int p6), .val (.int (Int32.ofNat 4)), .val (.int (Int32.ofNat f)), .val (.int (Int32.ofNat t)), .val (.int d), .val (.int e_), .val (.ref o), .unset, .unset] [(.int p2), (.int (1 : Int32)), (.ref o)])) rfl (by rw [hml]; rfl) (Steps.refl _) (argsL := [(.int (1 : Int32)), (.int p2)]) (rest := []) (lenOf own_pd3 rfl) rfl (by show 2 * 0 + _ ≤ _; exact Nat.le_of_eq rfl) (hb hby at_83) (fun _ _ => ⟨rfl, rfl, (by decide : 2 + 0 ≤ _), (by decide : 18 + 0 ≤ _)⟩)
      dsimp only [Pt.U, Pt.locs, Pt.cells, Pt.slots] at X19 l19 y19 z19 st19 hQ19
      rw [l19, y19, z19] at X19
      obtain ⟨rfl, Nq19, K3, Tr2⟩ := hQ19
      have sz19 : n0 ≤ T19.heap.size := Nat.le_trans sz18 K3.1
      have N19 := Fr.app N18 Nq19
      obtain ⟨cq20, kq20, q20a, q20b, q20c⟩ := isOf hZ rfl (Tr2.1)
      obtain ⟨_, _, ⟨T20, L20, k20, n20⟩, -, X20, ⟨Lc20, hQ20, l20, y20, z20⟩, st20⟩ := X19.virtualBack hx (y := (⟨"com/example/unknot/unknot/sp/MinTree", "set", "(II)V"⟩ : MethodName)) (z := (⟨"com/example/unknot/unknot/sp/MinTree", "set", "(II)V"⟩ : MethodName)) hown (mvT hZ (hw _ (List.mem_of_getElem? (i := 19) rfl))) (mvT hZ (hw _ (List.mem_of_getElem? (i := 20) rfl))) (notFace_of_selects (args := #[]) (mvT hZ (hw _ (List.mem_of_getElem? (i := 22) rfl)))) (mvT hZ (hw _ (List.mem_of_getElem? (i := 22) rfl))) (mvT hZ (hw _ (List.mem_of_getElem? (i := 21) rfl))) (by decide) (backOf (W := 0) (rm_set l Z a0 hw [] o (2 : Int32) p3 b kc (own_lv 4) 2 (own_set (own_lv 4) (own_set (own_lv 4) (List.replicate (2 * own_lv 4) (2147483647 : Int32)) 0 p1) 1 p2) T19.heap n0 sz19 rfl (by decide) (by decide) gb Tr2) hZ (hw _ (List.mem_of_getElem? (i := 23) rfl)) (hw _ (List.mem_of_getElem? (i := 2) rfl)) (by decide) (by decide)) q20a q20c (g := (mkF m 96 #[.val (.int p1), .val (.int p2), .val (.int p3), .val (.long q4), .second, .val (.int p5), .val (.int p6), .val (.int (Int32.ofNat 4)), .val (.int (Int32.ofNat f)), .val (.int (Int32.ofNat t)), .val (.int d), .val (.int e_), .val (.ref o), .unset, .unset] [(.int p3), (.int (2 : Int32)), (.ref o)])) rfl (by rw [hml]; rfl) (Steps.refl _) (argsL := [(.int (2 : Int32)), (.int p3)]) (rest := []) (lenOf own_pd3 rfl) rfl (by show 2 * 0 + _ ≤ _; exact Nat.le_of_eq rfl) (hb hby at_96) (fun _ _ => ⟨rfl, rfl, (by decide : 2 + 0 ≤ _), (by decide : 18 + 0 ≤ _)⟩)
      dsimp only [Pt.U, Pt.locs, Pt.cells, Pt.slots] at X20 l20 y20 z20 st20 hQ20
      rw [l20, y20, z20] at X20
      obtain ⟨rfl, Nq20, K4, Tr3⟩ := hQ20
      have sz20 : n0 ≤ T20.heap.size := Nat.le_trans sz19 K4.1
      have N20 := Fr.app N19 Nq20
      obtain ⟨cq21, kq21, q21a, q21b, q21c⟩ := isOf hZ rfl (Tr3.1)
      obtain ⟨_, _, ⟨T21, L21, k21, n21⟩, -, X21, ⟨Lc21, hQ21, l21, y21, z21⟩, st21⟩ := X20.virtualBack hx (y := (⟨"com/example/unknot/unknot/sp/MinTree", "set", "(II)V"⟩ : MethodName)) (z := (⟨"com/example/unknot/unknot/sp/MinTree", "set", "(II)V"⟩ : MethodName)) hown (mvT hZ (hw _ (List.mem_of_getElem? (i := 19) rfl))) (mvT hZ (hw _ (List.mem_of_getElem? (i := 20) rfl))) (notFace_of_selects (args := #[]) (mvT hZ (hw _ (List.mem_of_getElem? (i := 22) rfl)))) (mvT hZ (hw _ (List.mem_of_getElem? (i := 22) rfl))) (mvT hZ (hw _ (List.mem_of_getElem? (i := 21) rfl))) (by decide) (backOf (W := 0) (rm_set l Z a0 hw [] o (3 : Int32) d b kc (own_lv 4) 3 (own_set (own_lv 4) (own_set (own_lv 4) (own_set (own_lv 4) (List.replicate (2 * own_lv 4) (2147483647 : Int32)) 0 p1) 1 p2) 2 p3) T20.heap n0 sz20 rfl (by decide) (by decide) gb Tr3) hZ (hw _ (List.mem_of_getElem? (i := 23) rfl)) (hw _ (List.mem_of_getElem? (i := 2) rfl)) (by decide) (by decide)) q21a q21c (g := (mkF m 110 #[.val (.int p1), .val (.int p2), .val (.int p3), .val (.long q4), .second, .val (.int p5), .val (.int p6), .val (.int (Int32.ofNat 4)), .val (.int (Int32.ofNat f)), .val (.int (Int32.ofNat t)), .val (.int d), .val (.int e_), .val (.ref o), .unset, .unset] [(.int d), (.int (3 : Int32)), (.ref o)])) rfl (by rw [hml]; rfl) (Steps.refl _) (argsL := [(.int (3 : Int32)), (.int d)]) (rest := []) (lenOf own_pd3 rfl) rfl (by show 2 * 0 + _ ≤ _; exact Nat.le_of_eq rfl) (hb hby at_110) (fun _ _ => ⟨rfl, rfl, (by decide : 2 + 0 ≤ _), (by decide : 18 + 0 ≤ _)⟩)
      dsimp only [Pt.U, Pt.locs, Pt.cells, Pt.slots] at X21 l21 y21 z21 st21 hQ21
      rw [l21, y21, z21] at X21
      obtain ⟨rfl, Nq21, K5, Tr4⟩ := hQ21
      have sz21 : n0 ≤ T21.heap.size := Nat.le_trans sz20 K5.1
      have N21 := Fr.app N20 Nq21
      obtain ⟨cq22, kq22, q22a, q22b, q22c⟩ := isOf hZ rfl (Tr4.1)
      obtain ⟨_, _, ⟨T22, L22, k22, n22⟩, -, X22, ⟨Lc22, hQ22, l22, y22, z22⟩, st22⟩ := X21.virtualBack hx (y := (⟨"com/example/unknot/unknot/sp/MinTree", "firstAtMost", "(III)I"⟩ : MethodName)) (z := (⟨"com/example/unknot/unknot/sp/MinTree", "firstAtMost", "(III)I"⟩ : MethodName)) hown (mvT hZ (hw _ (List.mem_of_getElem? (i := 28) rfl))) (mvT hZ (hw _ (List.mem_of_getElem? (i := 29) rfl))) (notFace_of_selects (args := #[]) (mvT hZ (hw _ (List.mem_of_getElem? (i := 31) rfl)))) (mvT hZ (hw _ (List.mem_of_getElem? (i := 31) rfl))) (mvT hZ (hw _ (List.mem_of_getElem? (i := 30) rfl))) (by decide) (backOf (W := 0) (rm_fam l Z a0 hw [] o (Int32.ofNat f) (Int32.ofNat t) p5 b kc (own_lv 4) f t (own_set (own_lv 4) (own_set (own_lv 4) (own_set (own_lv 4) (own_set (own_lv 4) (List.replicate (2 * own_lv 4) (2147483647 : Int32)) 0 p1) 1 p2) 2 p3) 3 d) T21.heap n0 sz21 rfl rfl (by decide) (Nat.le_trans ht (by decide)) (Nat.le_trans hf (by decide)) Tr4) hZ (hw _ (List.mem_of_getElem? (i := 32) rfl)) (hw _ (List.mem_of_getElem? (i := 2) rfl)) (by decide) (by decide)) q22a q22c (g := (mkF m 135 #[.val (.int p1), .val (.int p2), .val (.int p3), .val (.long q4), .second, .val (.int p5), .val (.int p6), .val (.int (Int32.ofNat 4)), .val (.int (Int32.ofNat f)), .val (.int (Int32.ofNat t)), .val (.int d), .val (.int e_), .val (.ref o), .unset, .unset] [(.int p5), (.int (Int32.ofNat t)), (.int (Int32.ofNat f)), (.ref o)])) rfl (by rw [hml]; rfl) (Steps.refl _) (argsL := [(.int (Int32.ofNat f)), (.int (Int32.ofNat t)), (.int p5)]) (rest := []) (lenOf own_pd4 rfl) rfl (by show 2 * 0 + _ ≤ _; exact Nat.le_of_eq rfl) (hb hby at_135) (fun _ _ => ⟨rfl, rfl, (by decide : 2 + 0 ≤ _), (by decide : 18 + 0 ≤ _)⟩)
      dsimp only [Pt.U, Pt.locs, Pt.cells, Pt.slots] at X22 l22 y22 z22 st22 hQ22
      rw [l22, y22, z22] at X22
      obtain ⟨rfl, Nq22, e22⟩ := hQ22
      have N22 := Fr.app N21 Nq22
      obtain ⟨gt, h_gt⟩ : ∃ z : Int32, z = (own_fam (own_hitf (own_set (own_lv 4) (own_set (own_lv 4) (own_set (own_lv 4) (own_set (own_lv 4) (List.replicate (2 * own_lv 4) (2147483647 : Int32)) 0 p1) 1 p2) 2 p3) 3 d) p5) (own_lv 4) f t) := ⟨_, rfl⟩
      have h2_gt : (own_fam (own_hitf (own_set (own_lv 4) (own_set (own_lv 4) (own_set (own_lv 4) (own_set (own_lv 4) (List.replicate (2 * own_lv 4) (2147483647 : Int32)) 0 p1) 1 p2) 2 p3) 3 d) p5) (own_lv 4) f t) = gt := h_gt.symm
      have hgt : gt = own_want p1 p2 p3 d e_ (Int32.ofNat f) (Int32.ofNat t) p5 := h_gt.trans (own_case4 p1 p2 p3 d e_ p5 f t hf ht)
      refine ⟨o, gt, T22, _, X22, N22, by rw [e22]; exact sz21, hgt, fun t_ kt => ?_⟩
      show Steps p.tables e below (s₁.setTop (mkF m 55 #[.val (.int p1), .val (.int p2), .val (.int p3), .val (.long q4), .second, .val (.int p5), .val (.int p6), .val (.int (Int32.ofNat 4)), .val (.int (Int32.ofNat f)), .val (.int (Int32.ofNat t)), .val (.int d), .val (.int e_), .unset, .unset, .unset] [])) _
      refine st16 _ ?_
      show Steps p.tables e below (T16.setTop (mkF m 58 #[.val (.int p1), .val (.int p2), .val (.int p3), .val (.long q4), .second, .val (.int p5), .val (.int p6), .val (.int (Int32.ofNat 4)), .val (.int (Int32.ofNat f)), .val (.int (Int32.ofNat t)), .val (.int d), .val (.int e_), .unset, .unset, .unset] [(.ref o)])) _
      refine XS.dup X16.here hx rfl (hb hby at_58) rfl rfl ?_
      show Steps p.tables e below (T16.setTop (mkF m 59 #[.val (.int p1), .val (.int p2), .val (.int p3), .val (.long q4), .second, .val (.int p5), .val (.int p6), .val (.int (Int32.ofNat 4)), .val (.int (Int32.ofNat f)), .val (.int (Int32.ofNat t)), .val (.int d), .val (.int e_), .unset, .unset, .unset] [(.ref o), (.ref o)])) _
      refine XS.iload X16.here hx rfl (hb hby at_59) rfl ?_
      show Steps p.tables e below (T16.setTop (mkF m 61 #[.val (.int p1), .val (.int p2), .val (.int p3), .val (.long q4), .second, .val (.int p5), .val (.int p6), .val (.int (Int32.ofNat 4)), .val (.int (Int32.ofNat f)), .val (.int (Int32.ofNat t)), .val (.int d), .val (.int e_), .unset, .unset, .unset] [(.int (Int32.ofNat 4)), (.ref o), (.ref o)])) _
      refine st17.trans ?_
      show Steps p.tables e below (T17.setTop (mkF m 64 #[.val (.int p1), .val (.int p2), .val (.int p3), .val (.long q4), .second, .val (.int p5), .val (.int p6), .val (.int (Int32.ofNat 4)), .val (.int (Int32.ofNat f)), .val (.int (Int32.ofNat t)), .val (.int d), .val (.int e_), .unset, .unset, .unset] [(.ref o)])) _
      refine XS.astore X17.here hx rfl (hb hby at_64) rfl rfl (l' := #[.val (.int p1), .val (.int p2), .val (.int p3), .val (.long q4), .second, .val (.int p5), .val (.int p6), .val (.int (Int32.ofNat 4)), .val (.int (Int32.ofNat f)), .val (.int (Int32.ofNat t)), .val (.int d), .val (.int e_), .val (.ref o), .unset, .unset]) rfl ?_
      show Steps p.tables e below (T17.setTop (mkF m 66 #[.val (.int p1), .val (.int p2), .val (.int p3), .val (.long q4), .second, .val (.int p5), .val (.int p6), .val (.int (Int32.ofNat 4)), .val (.int (Int32.ofNat f)), .val (.int (Int32.ofNat t)), .val (.int d), .val (.int e_), .val (.ref o), .unset, .unset] [])) _
      refine XS.aload X17.here hx rfl (hb hby at_66) rfl rfl ?_
      show Steps p.tables e below (T17.setTop (mkF m 68 #[.val (.int p1), .val (.int p2), .val (.int p3), .val (.long q4), .second, .val (.int p5), .val (.int p6), .val (.int (Int32.ofNat 4)), .val (.int (Int32.ofNat f)), .val (.int (Int32.ofNat t)), .val (.int d), .val (.int e_), .val (.ref o), .unset, .unset] [(.ref o)])) _
      refine XS.iconst X17.here hx rfl (hb hby at_68) ?_
      show Steps p.tables e below (T17.setTop (mkF m 69 #[.val (.int p1), .val (.int p2), .val (.int p3), .val (.long q4), .second, .val (.int p5), .val (.int p6), .val (.int (Int32.ofNat 4)), .val (.int (Int32.ofNat f)), .val (.int (Int32.ofNat t)), .val (.int d), .val (.int e_), .val (.ref o), .unset, .unset] [(.int (0 : Int32)), (.ref o)])) _
      refine XS.iloadN X17.here hx rfl (hb hby at_69) rfl ?_
      show Steps p.tables e below (T17.setTop (mkF m 70 #[.val (.int p1), .val (.int p2), .val (.int p3), .val (.long q4), .second, .val (.int p5), .val (.int p6), .val (.int (Int32.ofNat 4)), .val (.int (Int32.ofNat f)), .val (.int (Int32.ofNat t)), .val (.int d), .val (.int e_), .val (.ref o), .unset, .unset] [(.int p1), (.int (0 : Int32)), (.ref o)])) _
      refine st18.trans ?_
      show Steps p.tables e below (T18.setTop (mkF m 73 #[.val (.int p1), .val (.int p2), .val (.int p3), .val (.long q4), .second, .val (.int p5), .val (.int p6), .val (.int (Int32.ofNat 4)), .val (.int (Int32.ofNat f)), .val (.int (Int32.ofNat t)), .val (.int d), .val (.int e_), .val (.ref o), .unset, .unset] [])) _
      refine XS.iload X18.here hx rfl (hb hby at_73) rfl ?_
      show Steps p.tables e below (T18.setTop (mkF m 75 #[.val (.int p1), .val (.int p2), .val (.int p3), .val (.long q4), .second, .val (.int p5), .val (.int p6), .val (.int (Int32.ofNat 4)), .val (.int (Int32.ofNat f)), .val (.int (Int32.ofNat t)), .val (.int d), .val (.int e_), .val (.ref o), .unset, .unset] [(.int (Int32.ofNat 4))])) _
      refine XS.iconst X18.here hx rfl (hb hby at_75) ?_
      show Steps p.tables e below (T18.setTop (mkF m 76 #[.val (.int p1), .val (.int p2), .val (.int p3), .val (.long q4), .second, .val (.int p5), .val (.int p6), .val (.int (Int32.ofNat 4)), .val (.int (Int32.ofNat f)), .val (.int (Int32.ofNat t)), .val (.int d), .val (.int e_), .val (.ref o), .unset, .unset] [(.int (1 : Int32)), (.int (Int32.ofNat 4))])) _
      refine XS.icmpNo X18.here hx rfl (hb hby at_76) rfl (tlt (by decide)).2.2.2 ?_
      show Steps p.tables e below (T18.setTop (mkF m 79 #[.val (.int p1), .val (.int p2), .val (.int p3), .val (.long q4), .second, .val (.int p5), .val (.int p6), .val (.int (Int32.ofNat 4)), .val (.int (Int32.ofNat f)), .val (.int (Int32.ofNat t)), .val (.int d), .val (.int e_), .val (.ref o), .unset, .unset] [])) _
      refine XS.aload X18.here hx rfl (hb hby at_79) rfl rfl ?_
      show Steps p.tables e below (T18.setTop (mkF m 81 #[.val (.int p1), .val (.int p2), .val (.int p3), .val (.long q4), .second, .val (.int p5), .val (.int p6), .val (.int (Int32.ofNat 4)), .val (.int (Int32.ofNat f)), .val (.int (Int32.ofNat t)), .val (.int d), .val (.int e_), .val (.ref o), .unset, .unset] [(.ref o)])) _
      refine XS.iconst X18.here hx rfl (hb hby at_81) ?_
      show Steps p.tables e below (T18.setTop (mkF m 82 #[.val (.int p1), .val (.int p2), .val (.int p3), .val (.long q4), .second, .val (.int p5), .val (.int p6), .val (.int (Int32.ofNat 4)), .val (.int (Int32.ofNat f)), .val (.int (Int32.ofNat t)), .val (.int d), .val (.int e_), .val (.ref o), .unset, .unset] [(.int (1 : Int32)), (.ref o)])) _
      refine XS.iloadN X18.here hx rfl (hb hby at_82) rfl ?_
      show Steps p.tables e below (T18.setTop (mkF m 83 #[.val (.int p1), .val (.int p2), .val (.int p3), .val (.long q4), .second, .val (.int p5), .val (.int p6), .val (.int (Int32.ofNat 4)), .val (.int (Int32.ofNat f)), .val (.int (Int32.ofNat t)), .val (.int d), .val (.int e_), .val (.ref o), .unset, .unset] [(.int p2), (.int (1 : Int32)), (.ref o)])) _
      refine st19.trans ?_
      show Steps p.tables e below (T19.setTop (mkF m 86 #[.val (.int p1), .val (.int p2), .val (.int p3), .val (.long q4), .second, .val (.int p5), .val (.int p6), .val (.int (Int32.ofNat 4)), .val (.int (Int32.ofNat f)), .val (.int (Int32.ofNat t)), .val (.int d), .val (.int e_), .val (.ref o), .unset, .unset] [])) _
      refine XS.iload X19.here hx rfl (hb hby at_86) rfl ?_
      show Steps p.tables e below (T19.setTop (mkF m 88 #[.val (.int p1), .val (.int p2), .val (.int p3), .val (.long q4), .second, .val (.int p5), .val (.int p6), .val (.int (Int32.ofNat 4)), .val (.int (Int32.ofNat f)), .val (.int (Int32.ofNat t)), .val (.int d), .val (.int e_), .val (.ref o), .unset, .unset] [(.int (Int32.ofNat 4))])) _
      refine XS.iconst X19.here hx rfl (hb hby at_88) ?_
      show Steps p.tables e below (T19.setTop (mkF m 89 #[.val (.int p1), .val (.int p2), .val (.int p3), .val (.long q4), .second, .val (.int p5), .val (.int p6), .val (.int (Int32.ofNat 4)), .val (.int (Int32.ofNat f)), .val (.int (Int32.ofNat t)), .val (.int d), .val (.int e_), .val (.ref o), .unset, .unset] [(.int (2 : Int32)), (.int (Int32.ofNat 4))])) _
      refine XS.icmpNo X19.here hx rfl (hb hby at_89) rfl (tlt (by decide)).2.2.2 ?_
      show Steps p.tables e below (T19.setTop (mkF m 92 #[.val (.int p1), .val (.int p2), .val (.int p3), .val (.long q4), .second, .val (.int p5), .val (.int p6), .val (.int (Int32.ofNat 4)), .val (.int (Int32.ofNat f)), .val (.int (Int32.ofNat t)), .val (.int d), .val (.int e_), .val (.ref o), .unset, .unset] [])) _
      refine XS.aload X19.here hx rfl (hb hby at_92) rfl rfl ?_
      show Steps p.tables e below (T19.setTop (mkF m 94 #[.val (.int p1), .val (.int p2), .val (.int p3), .val (.long q4), .second, .val (.int p5), .val (.int p6), .val (.int (Int32.ofNat 4)), .val (.int (Int32.ofNat f)), .val (.int (Int32.ofNat t)), .val (.int d), .val (.int e_), .val (.ref o), .unset, .unset] [(.ref o)])) _
      refine XS.iconst X19.here hx rfl (hb hby at_94) ?_
      show Steps p.tables e below (T19.setTop (mkF m 95 #[.val (.int p1), .val (.int p2), .val (.int p3), .val (.long q4), .second, .val (.int p5), .val (.int p6), .val (.int (Int32.ofNat 4)), .val (.int (Int32.ofNat f)), .val (.int (Int32.ofNat t)), .val (.int d), .val (.int e_), .val (.ref o), .unset, .unset] [(.int (2 : Int32)), (.ref o)])) _
      refine XS.iloadN X19.here hx rfl (hb hby at_95) rfl ?_
      show Steps p.tables e below (T19.setTop (mkF m 96 #[.val (.int p1), .val (.int p2), .val (.int p3), .val (.long q4), .second, .val (.int p5), .val (.int p6), .val (.int (Int32.ofNat 4)), .val (.int (Int32.ofNat f)), .val (.int (Int32.ofNat t)), .val (.int d), .val (.int e_), .val (.ref o), .unset, .unset] [(.int p3), (.int (2 : Int32)), (.ref o)])) _
      refine st20.trans ?_
      show Steps p.tables e below (T20.setTop (mkF m 99 #[.val (.int p1), .val (.int p2), .val (.int p3), .val (.long q4), .second, .val (.int p5), .val (.int p6), .val (.int (Int32.ofNat 4)), .val (.int (Int32.ofNat f)), .val (.int (Int32.ofNat t)), .val (.int d), .val (.int e_), .val (.ref o), .unset, .unset] [])) _
      refine XS.iload X20.here hx rfl (hb hby at_99) rfl ?_
      show Steps p.tables e below (T20.setTop (mkF m 101 #[.val (.int p1), .val (.int p2), .val (.int p3), .val (.long q4), .second, .val (.int p5), .val (.int p6), .val (.int (Int32.ofNat 4)), .val (.int (Int32.ofNat f)), .val (.int (Int32.ofNat t)), .val (.int d), .val (.int e_), .val (.ref o), .unset, .unset] [(.int (Int32.ofNat 4))])) _
      refine XS.iconst X20.here hx rfl (hb hby at_101) ?_
      show Steps p.tables e below (T20.setTop (mkF m 102 #[.val (.int p1), .val (.int p2), .val (.int p3), .val (.long q4), .second, .val (.int p5), .val (.int p6), .val (.int (Int32.ofNat 4)), .val (.int (Int32.ofNat f)), .val (.int (Int32.ofNat t)), .val (.int d), .val (.int e_), .val (.ref o), .unset, .unset] [(.int (3 : Int32)), (.int (Int32.ofNat 4))])) _
      refine XS.icmpNo X20.here hx rfl (hb hby at_102) rfl (tlt (by decide)).2.2.2 ?_
      show Steps p.tables e below (T20.setTop (mkF m 105 #[.val (.int p1), .val (.int p2), .val (.int p3), .val (.long q4), .second, .val (.int p5), .val (.int p6), .val (.int (Int32.ofNat 4)), .val (.int (Int32.ofNat f)), .val (.int (Int32.ofNat t)), .val (.int d), .val (.int e_), .val (.ref o), .unset, .unset] [])) _
      refine XS.aload X20.here hx rfl (hb hby at_105) rfl rfl ?_
      show Steps p.tables e below (T20.setTop (mkF m 107 #[.val (.int p1), .val (.int p2), .val (.int p3), .val (.long q4), .second, .val (.int p5), .val (.int p6), .val (.int (Int32.ofNat 4)), .val (.int (Int32.ofNat f)), .val (.int (Int32.ofNat t)), .val (.int d), .val (.int e_), .val (.ref o), .unset, .unset] [(.ref o)])) _
      refine XS.iconst X20.here hx rfl (hb hby at_107) ?_
      show Steps p.tables e below (T20.setTop (mkF m 108 #[.val (.int p1), .val (.int p2), .val (.int p3), .val (.long q4), .second, .val (.int p5), .val (.int p6), .val (.int (Int32.ofNat 4)), .val (.int (Int32.ofNat f)), .val (.int (Int32.ofNat t)), .val (.int d), .val (.int e_), .val (.ref o), .unset, .unset] [(.int (3 : Int32)), (.ref o)])) _
      refine XS.iload X20.here hx rfl (hb hby at_108) rfl ?_
      show Steps p.tables e below (T20.setTop (mkF m 110 #[.val (.int p1), .val (.int p2), .val (.int p3), .val (.long q4), .second, .val (.int p5), .val (.int p6), .val (.int (Int32.ofNat 4)), .val (.int (Int32.ofNat f)), .val (.int (Int32.ofNat t)), .val (.int d), .val (.int e_), .val (.ref o), .unset, .unset] [(.int d), (.int (3 : Int32)), (.ref o)])) _
      refine st21.trans ?_
      show Steps p.tables e below (T21.setTop (mkF m 113 #[.val (.int p1), .val (.int p2), .val (.int p3), .val (.long q4), .second, .val (.int p5), .val (.int p6), .val (.int (Int32.ofNat 4)), .val (.int (Int32.ofNat f)), .val (.int (Int32.ofNat t)), .val (.int d), .val (.int e_), .val (.ref o), .unset, .unset] [])) _
      refine XS.iload X21.here hx rfl (hb hby at_113) rfl ?_
      show Steps p.tables e below (T21.setTop (mkF m 115 #[.val (.int p1), .val (.int p2), .val (.int p3), .val (.long q4), .second, .val (.int p5), .val (.int p6), .val (.int (Int32.ofNat 4)), .val (.int (Int32.ofNat f)), .val (.int (Int32.ofNat t)), .val (.int d), .val (.int e_), .val (.ref o), .unset, .unset] [(.int (Int32.ofNat 4))])) _
      refine XS.iconst X21.here hx rfl (hb hby at_115) ?_
      show Steps p.tables e below (T21.setTop (mkF m 116 #[.val (.int p1), .val (.int p2), .val (.int p3), .val (.long q4), .second, .val (.int p5), .val (.int p6), .val (.int (Int32.ofNat 4)), .val (.int (Int32.ofNat f)), .val (.int (Int32.ofNat t)), .val (.int d), .val (.int e_), .val (.ref o), .unset, .unset] [(.int (4 : Int32)), (.int (Int32.ofNat 4))])) _
      refine XS.icmpYes X21.here hx rfl (pc0 := 116) (pc' := 127) rfl (hb hby at_116) rfl (flt (by decide)).2.2.2 (by decide) (by decide) ?_
      show Steps p.tables e below (T21.setTop (mkF m 127 #[.val (.int p1), .val (.int p2), .val (.int p3), .val (.long q4), .second, .val (.int p5), .val (.int p6), .val (.int (Int32.ofNat 4)), .val (.int (Int32.ofNat f)), .val (.int (Int32.ofNat t)), .val (.int d), .val (.int e_), .val (.ref o), .unset, .unset] [])) _
      refine XS.aload X21.here hx rfl (hb hby at_127) rfl rfl ?_
      show Steps p.tables e below (T21.setTop (mkF m 129 #[.val (.int p1), .val (.int p2), .val (.int p3), .val (.long q4), .second, .val (.int p5), .val (.int p6), .val (.int (Int32.ofNat 4)), .val (.int (Int32.ofNat f)), .val (.int (Int32.ofNat t)), .val (.int d), .val (.int e_), .val (.ref o), .unset, .unset] [(.ref o)])) _
      refine XS.iload X21.here hx rfl (hb hby at_129) rfl ?_
      show Steps p.tables e below (T21.setTop (mkF m 131 #[.val (.int p1), .val (.int p2), .val (.int p3), .val (.long q4), .second, .val (.int p5), .val (.int p6), .val (.int (Int32.ofNat 4)), .val (.int (Int32.ofNat f)), .val (.int (Int32.ofNat t)), .val (.int d), .val (.int e_), .val (.ref o), .unset, .unset] [(.int (Int32.ofNat f)), (.ref o)])) _
      refine XS.iload X21.here hx rfl (hb hby at_131) rfl ?_
      show Steps p.tables e below (T21.setTop (mkF m 133 #[.val (.int p1), .val (.int p2), .val (.int p3), .val (.long q4), .second, .val (.int p5), .val (.int p6), .val (.int (Int32.ofNat 4)), .val (.int (Int32.ofNat f)), .val (.int (Int32.ofNat t)), .val (.int d), .val (.int e_), .val (.ref o), .unset, .unset] [(.int (Int32.ofNat t)), (.int (Int32.ofNat f)), (.ref o)])) _
      refine XS.iload X21.here hx rfl (hb hby at_133) rfl ?_
      show Steps p.tables e below (T21.setTop (mkF m 135 #[.val (.int p1), .val (.int p2), .val (.int p3), .val (.long q4), .second, .val (.int p5), .val (.int p6), .val (.int (Int32.ofNat 4)), .val (.int (Int32.ofNat f)), .val (.int (Int32.ofNat t)), .val (.int d), .val (.int e_), .val (.ref o), .unset, .unset] [(.int p5), (.int (Int32.ofNat t)), (.int (Int32.ofNat f)), (.ref o)])) _
      refine st22.trans ?_
      show Steps p.tables e below (T22.setTop (mkF m 138 #[.val (.int p1), .val (.int p2), .val (.int p3), .val (.long q4), .second, .val (.int p5), .val (.int p6), .val (.int (Int32.ofNat 4)), .val (.int (Int32.ofNat f)), .val (.int (Int32.ofNat t)), .val (.int d), .val (.int e_), .val (.ref o), .unset, .unset] [(.int (own_fam (own_hitf (own_set (own_lv 4) (own_set (own_lv 4) (own_set (own_lv 4) (own_set (own_lv 4) (List.replicate (2 * own_lv 4) (2147483647 : Int32)) 0 p1) 1 p2) 2 p3) 3 d) p5) (own_lv 4) f t))])) _
      rw [h2_gt]
      show Steps p.tables e below (T22.setTop (mkF m 138 #[.val (.int p1), .val (.int p2), .val (.int p3), .val (.long q4), .second, .val (.int p5), .val (.int p6), .val (.int (Int32.ofNat 4)), .val (.int (Int32.ofNat f)), .val (.int (Int32.ofNat t)), .val (.int d), .val (.int e_), .val (.ref o), .unset, .unset] [(.int gt)])) _
      refine XS.istore X22.here hx rfl (hb hby at_138) rfl (l' := #[.val (.int p1), .val (.int p2), .val (.int p3), .val (.long q4), .second, .val (.int p5), .val (.int p6), .val (.int (Int32.ofNat 4)), .val (.int (Int32.ofNat f)), .val (.int (Int32.ofNat t)), .val (.int d), .val (.int e_), .val (.ref o), .val (.int gt), .unset]) rfl ?_
      exact kt
    · obtain ⟨T23, h23, X23, e23, E23, A23, D23, -, st23⟩ := newO X0 hx hZ hown (hw _ (List.mem_of_getElem? (i := 0) rfl)) (hw _ (List.mem_of_getElem? (i := 1) rfl)) (hw _ (List.mem_of_getElem? (i := 2) rfl)) e0 (g := (mkF m 55 #[.val (.int p1), .val (.int p2), .val (.int p3), .val (.long q4), .second, .val (.int p5), .val (.int p6), .val (.int (Int32.ofNat 5)), .val (.int (Int32.ofNat f)), .val (.int (Int32.ofNat t)), .val (.int d), .val (.int e_), .unset, .unset, .unset] [])) rfl (hb hby at_55) (by decide) (by decide)
      obtain ⟨o, g23⟩ : ∃ z, z = h0.size := ⟨_, rfl⟩
      rw [← g23] at A23 D23 st23
      have gn_o : n0 ≤ o := Nat.le_trans Z0 (Nat.le_of_eq g23.symm)
      have sz23 : n0 ≤ h23.size := Nat.le_trans Z0 E23.1
      have E_o := A23
      have F1_o := D23 (Or.inr (hw _ (List.mem_of_getElem? (i := 10) rfl))) (ty := .int) (by decide)
      have F2_o := D23 (Or.inr (hw _ (List.mem_of_getElem? (i := 13) rfl))) (ty := .array .int) (by decide)
      obtain ⟨_, _, ⟨T24, L24, k24, n24⟩, -, X24, ⟨Lc24, hQ24, l24, y24, z24⟩, st24⟩ := X23.specialBack hx (y := (⟨"com/example/unknot/unknot/sp/MinTree", "<init>", "(I)V"⟩ : MethodName)) rfl hown (mvT hZ (hw _ (List.mem_of_getElem? (i := 3) rfl))) (mvT hZ (hw _ (List.mem_of_getElem? (i := 4) rfl))) (mvT hZ (hw _ (List.mem_of_getElem? (i := 5) rfl))) (by decide) (backOf (W := 1) (rm_ini l Z a0 hw [] o (Int32.ofNat 5) 5 _ _ h23 n0 sz23 rfl (by decide) (by decide) E_o F1_o F2_o gn_o) hZ (hw _ (List.mem_of_getElem? (i := 5) rfl)) (hw _ (List.mem_of_getElem? (i := 2) rfl)) (by decide) (by decide)) (g := (mkF m 61 #[.val (.int p1), .val (.int p2), .val (.int p3), .val (.long q4), .second, .val (.int p5), .val (.int p6), .val (.int (Int32.ofNat 5)), .val (.int (Int32.ofNat f)), .val (.int (Int32.ofNat t)), .val (.int d), .val (.int e_), .unset, .unset, .unset] [(.int (Int32.ofNat 5)), (.ref o), (.ref o)])) rfl (by rw [hml]; rfl) (Steps.refl _) (a := o) (argsL := [(.int (Int32.ofNat 5))]) (rest := [(.ref o)]) (lenOf own_pd2 rfl) rfl (by show 2 * 0 + _ ≤ _; exact Nat.le_of_eq rfl) (hb hby at_61) (fun _ _ => ⟨rfl, e23, (by decide : 1 + 1 ≤ _), (by decide : 2 + 16 ≤ _)⟩)
      dsimp only [Pt.U, Pt.locs, Pt.cells, Pt.slots] at X24 l24 y24 z24 st24 hQ24
      rw [l24, y24, z24] at X24
      obtain ⟨rfl, Nq24, K1, b, kc, gb, Tr0⟩ := hQ24
      have sz24 : n0 ≤ T24.heap.size := Nat.le_trans sz23 K1.1
      have N24 := Fr.app N0 Nq24
      obtain ⟨cq25, kq25, q25a, q25b, q25c⟩ := isOf hZ rfl (Tr0.1)
      obtain ⟨_, _, ⟨T25, L25, k25, n25⟩, -, X25, ⟨Lc25, hQ25, l25, y25, z25⟩, st25⟩ := X24.virtualBack hx (y := (⟨"com/example/unknot/unknot/sp/MinTree", "set", "(II)V"⟩ : MethodName)) (z := (⟨"com/example/unknot/unknot/sp/MinTree", "set", "(II)V"⟩ : MethodName)) hown (mvT hZ (hw _ (List.mem_of_getElem? (i := 19) rfl))) (mvT hZ (hw _ (List.mem_of_getElem? (i := 20) rfl))) (notFace_of_selects (args := #[]) (mvT hZ (hw _ (List.mem_of_getElem? (i := 22) rfl)))) (mvT hZ (hw _ (List.mem_of_getElem? (i := 22) rfl))) (mvT hZ (hw _ (List.mem_of_getElem? (i := 21) rfl))) (by decide) (backOf (W := 0) (rm_set l Z a0 hw [] o (0 : Int32) p1 b kc (own_lv 5) 0 (List.replicate (2 * own_lv 5) (2147483647 : Int32)) T24.heap n0 sz24 rfl (by decide) (by decide) gb Tr0) hZ (hw _ (List.mem_of_getElem? (i := 23) rfl)) (hw _ (List.mem_of_getElem? (i := 2) rfl)) (by decide) (by decide)) q25a q25c (g := (mkF m 70 #[.val (.int p1), .val (.int p2), .val (.int p3), .val (.long q4), .second, .val (.int p5), .val (.int p6), .val (.int (Int32.ofNat 5)), .val (.int (Int32.ofNat f)), .val (.int (Int32.ofNat t)), .val (.int d), .val (.int e_), .val (.ref o), .unset, .unset] [(.int p1), (.int (0 : Int32)), (.ref o)])) rfl (by rw [hml]; rfl) (Steps.refl _) (argsL := [(.int (0 : Int32)), (.int p1)]) (rest := []) (lenOf own_pd3 rfl) rfl (by show 2 * 0 + _ ≤ _; exact Nat.le_of_eq rfl) (hb hby at_70) (fun _ _ => ⟨rfl, rfl, (by decide : 2 + 0 ≤ _), (by decide : 18 + 0 ≤ _)⟩)
      dsimp only [Pt.U, Pt.locs, Pt.cells, Pt.slots] at X25 l25 y25 z25 st25 hQ25
      rw [l25, y25, z25] at X25
      obtain ⟨rfl, Nq25, K2, Tr1⟩ := hQ25
      have sz25 : n0 ≤ T25.heap.size := Nat.le_trans sz24 K2.1
      have N25 := Fr.app N24 Nq25
      obtain ⟨cq26, kq26, q26a, q26b, q26c⟩ := isOf hZ rfl (Tr1.1)
      obtain ⟨_, _, ⟨T26, L26, k26, n26⟩, -, X26, ⟨Lc26, hQ26, l26, y26, z26⟩, st26⟩ := X25.virtualBack hx (y := (⟨"com/example/unknot/unknot/sp/MinTree", "set", "(II)V"⟩ : MethodName)) (z := (⟨"com/example/unknot/unknot/sp/MinTree", "set", "(II)V"⟩ : MethodName)) hown (mvT hZ (hw _ (List.mem_of_getElem? (i := 19) rfl))) (mvT hZ (hw _ (List.mem_of_getElem? (i := 20) rfl))) (notFace_of_selects (args := #[]) (mvT hZ (hw _ (List.mem_of_getElem? (i := 22) rfl)))) (mvT hZ (hw _ (List.mem_of_getElem? (i := 22) rfl))) (mvT hZ (hw _ (List.mem_of_getElem? (i := 21) rfl))) (by decide) (backOf (W := 0) (rm_set l Z a0 hw [] o (1 : Int32) p2 b kc (own_lv 5) 1 (own_set (own_lv 5) (List.replicate (2 * own_lv 5) (2147483647 : Int32)) 0 p1) T25.heap n0 sz25 rfl (by decide) (by decide) gb Tr1) hZ (hw _ (List.mem_of_getElem? (i := 23) rfl)) (hw _ (List.mem_of_getElem? (i := 2) rfl)) (by decide) (by decide)) q26a q26c (g := (mkF m 83 #[.val (.int p1), .val (.int p2), .val (.int p3), .val (.long q4), .second, .val (.int p5), .val (.int p6), .val (.int (Int32.ofNat 5)), .val (.int (Int32.ofNat f)), .val (.int (Int32.ofNat t)), .val (.int d), .val (.int e_), .val (.ref o), .unset, .unset] [(.int p2), (.int (1 : Int32)), (.ref o)])) rfl (by rw [hml]; rfl) (Steps.refl _) (argsL := [(.int (1 : Int32)), (.int p2)]) (rest := []) (lenOf own_pd3 rfl) rfl (by show 2 * 0 + _ ≤ _; exact Nat.le_of_eq rfl) (hb hby at_83) (fun _ _ => ⟨rfl, rfl, (by decide : 2 + 0 ≤ _), (by decide : 18 + 0 ≤ _)⟩)
      dsimp only [Pt.U, Pt.locs, Pt.cells, Pt.slots] at X26 l26 y26 z26 st26 hQ26
      rw [l26, y26, z26] at X26
      obtain ⟨rfl, Nq26, K3, Tr2⟩ := hQ26
      have sz26 : n0 ≤ T26.heap.size := Nat.le_trans sz25 K3.1
      have N26 := Fr.app N25 Nq26
      obtain ⟨cq27, kq27, q27a, q27b, q27c⟩ := isOf hZ rfl (Tr2.1)
      obtain ⟨_, _, ⟨T27, L27, k27, n27⟩, -, X27, ⟨Lc27, hQ27, l27, y27, z27⟩, st27⟩ := X26.virtualBack hx (y := (⟨"com/example/unknot/unknot/sp/MinTree", "set", "(II)V"⟩ : MethodName)) (z := (⟨"com/example/unknot/unknot/sp/MinTree", "set", "(II)V"⟩ : MethodName)) hown (mvT hZ (hw _ (List.mem_of_getElem? (i := 19) rfl))) (mvT hZ (hw _ (List.mem_of_getElem? (i := 20) rfl))) (notFace_of_selects (args := #[]) (mvT hZ (hw _ (List.mem_of_getElem? (i := 22) rfl)))) (mvT hZ (hw _ (List.mem_of_getElem? (i := 22) rfl))) (mvT hZ (hw _ (List.mem_of_getElem? (i := 21) rfl))) (by decide) (backOf (W := 0) (rm_set l Z a0 hw [] o (2 : Int32) p3 b kc (own_lv 5) 2 (own_set (own_lv 5) (own_set (own_lv 5) (List.replicate (2 * own_lv 5) (2147483647 : Int32)) 0 p1) 1 p2) T26.heap n0 sz26 rfl (by decide) (by decide) gb Tr2) hZ (hw _ (List.mem_of_getElem? (i := 23) rfl)) (hw _ (List.mem_of_getElem? (i := 2) rfl)) (by decide) (by decide)) q27a q27c (g := (mkF m 96 #[.val (.int p1), .val (.int p2), .val (.int p3), .val (.long q4), .second, .val (.int p5), .val (.int p6), .val (.int (Int32.ofNat 5)), .val (.int (Int32.ofNat f)), .val (.int (Int32.ofNat t)), .val (.int d), .val (.int e_), .val (.ref o), .unset, .unset] [(.int p3), (.int (2 : Int32)), (.ref o)])) rfl (by rw [hml]; rfl) (Steps.refl _) (argsL := [(.int (2 : Int32)), (.int p3)]) (rest := []) (lenOf own_pd3 rfl) rfl (by show 2 * 0 + _ ≤ _; exact Nat.le_of_eq rfl) (hb hby at_96) (fun _ _ => ⟨rfl, rfl, (by decide : 2 + 0 ≤ _), (by decide : 18 + 0 ≤ _)⟩)
      dsimp only [Pt.U, Pt.locs, Pt.cells, Pt.slots] at X27 l27 y27 z27 st27 hQ27
      rw [l27, y27, z27] at X27
      obtain ⟨rfl, Nq27, K4, Tr3⟩ := hQ27
      have sz27 : n0 ≤ T27.heap.size := Nat.le_trans sz26 K4.1
      have N27 := Fr.app N26 Nq27
      obtain ⟨cq28, kq28, q28a, q28b, q28c⟩ := isOf hZ rfl (Tr3.1)
      obtain ⟨_, _, ⟨T28, L28, k28, n28⟩, -, X28, ⟨Lc28, hQ28, l28, y28, z28⟩, st28⟩ := X27.virtualBack hx (y := (⟨"com/example/unknot/unknot/sp/MinTree", "set", "(II)V"⟩ : MethodName)) (z := (⟨"com/example/unknot/unknot/sp/MinTree", "set", "(II)V"⟩ : MethodName)) hown (mvT hZ (hw _ (List.mem_of_getElem? (i := 19) rfl))) (mvT hZ (hw _ (List.mem_of_getElem? (i := 20) rfl))) (notFace_of_selects (args := #[]) (mvT hZ (hw _ (List.mem_of_getElem? (i := 22) rfl)))) (mvT hZ (hw _ (List.mem_of_getElem? (i := 22) rfl))) (mvT hZ (hw _ (List.mem_of_getElem? (i := 21) rfl))) (by decide) (backOf (W := 0) (rm_set l Z a0 hw [] o (3 : Int32) d b kc (own_lv 5) 3 (own_set (own_lv 5) (own_set (own_lv 5) (own_set (own_lv 5) (List.replicate (2 * own_lv 5) (2147483647 : Int32)) 0 p1) 1 p2) 2 p3) T27.heap n0 sz27 rfl (by decide) (by decide) gb Tr3) hZ (hw _ (List.mem_of_getElem? (i := 23) rfl)) (hw _ (List.mem_of_getElem? (i := 2) rfl)) (by decide) (by decide)) q28a q28c (g := (mkF m 110 #[.val (.int p1), .val (.int p2), .val (.int p3), .val (.long q4), .second, .val (.int p5), .val (.int p6), .val (.int (Int32.ofNat 5)), .val (.int (Int32.ofNat f)), .val (.int (Int32.ofNat t)), .val (.int d), .val (.int e_), .val (.ref o), .unset, .unset] [(.int d), (.int (3 : Int32)), (.ref o)])) rfl (by rw [hml]; rfl) (Steps.refl _) (argsL := [(.int (3 : Int32)), (.int d)]) (rest := []) (lenOf own_pd3 rfl) rfl (by show 2 * 0 + _ ≤ _; exact Nat.le_of_eq rfl) (hb hby at_110) (fun _ _ => ⟨rfl, rfl, (by decide : 2 + 0 ≤ _), (by decide : 18 + 0 ≤ _)⟩)
      dsimp only [Pt.U, Pt.locs, Pt.cells, Pt.slots] at X28 l28 y28 z28 st28 hQ28
      rw [l28, y28, z28] at X28
      obtain ⟨rfl, Nq28, K5, Tr4⟩ := hQ28
      have sz28 : n0 ≤ T28.heap.size := Nat.le_trans sz27 K5.1
      have N28 := Fr.app N27 Nq28
      obtain ⟨cq29, kq29, q29a, q29b, q29c⟩ := isOf hZ rfl (Tr4.1)
      obtain ⟨_, _, ⟨T29, L29, k29, n29⟩, -, X29, ⟨Lc29, hQ29, l29, y29, z29⟩, st29⟩ := X28.virtualBack hx (y := (⟨"com/example/unknot/unknot/sp/MinTree", "set", "(II)V"⟩ : MethodName)) (z := (⟨"com/example/unknot/unknot/sp/MinTree", "set", "(II)V"⟩ : MethodName)) hown (mvT hZ (hw _ (List.mem_of_getElem? (i := 19) rfl))) (mvT hZ (hw _ (List.mem_of_getElem? (i := 20) rfl))) (notFace_of_selects (args := #[]) (mvT hZ (hw _ (List.mem_of_getElem? (i := 22) rfl)))) (mvT hZ (hw _ (List.mem_of_getElem? (i := 22) rfl))) (mvT hZ (hw _ (List.mem_of_getElem? (i := 21) rfl))) (by decide) (backOf (W := 0) (rm_set l Z a0 hw [] o (4 : Int32) e_ b kc (own_lv 5) 4 (own_set (own_lv 5) (own_set (own_lv 5) (own_set (own_lv 5) (own_set (own_lv 5) (List.replicate (2 * own_lv 5) (2147483647 : Int32)) 0 p1) 1 p2) 2 p3) 3 d) T28.heap n0 sz28 rfl (by decide) (by decide) gb Tr4) hZ (hw _ (List.mem_of_getElem? (i := 23) rfl)) (hw _ (List.mem_of_getElem? (i := 2) rfl)) (by decide) (by decide)) q29a q29c (g := (mkF m 124 #[.val (.int p1), .val (.int p2), .val (.int p3), .val (.long q4), .second, .val (.int p5), .val (.int p6), .val (.int (Int32.ofNat 5)), .val (.int (Int32.ofNat f)), .val (.int (Int32.ofNat t)), .val (.int d), .val (.int e_), .val (.ref o), .unset, .unset] [(.int e_), (.int (4 : Int32)), (.ref o)])) rfl (by rw [hml]; rfl) (Steps.refl _) (argsL := [(.int (4 : Int32)), (.int e_)]) (rest := []) (lenOf own_pd3 rfl) rfl (by show 2 * 0 + _ ≤ _; exact Nat.le_of_eq rfl) (hb hby at_124) (fun _ _ => ⟨rfl, rfl, (by decide : 2 + 0 ≤ _), (by decide : 18 + 0 ≤ _)⟩)
      dsimp only [Pt.U, Pt.locs, Pt.cells, Pt.slots] at X29 l29 y29 z29 st29 hQ29
      rw [l29, y29, z29] at X29
      obtain ⟨rfl, Nq29, K6, Tr5⟩ := hQ29
      have sz29 : n0 ≤ T29.heap.size := Nat.le_trans sz28 K6.1
      have N29 := Fr.app N28 Nq29
      obtain ⟨cq30, kq30, q30a, q30b, q30c⟩ := isOf hZ rfl (Tr5.1)
      obtain ⟨_, _, ⟨T30, L30, k30, n30⟩, -, X30, ⟨Lc30, hQ30, l30, y30, z30⟩, st30⟩ := X29.virtualBack hx (y := (⟨"com/example/unknot/unknot/sp/MinTree", "firstAtMost", "(III)I"⟩ : MethodName)) (z := (⟨"com/example/unknot/unknot/sp/MinTree", "firstAtMost", "(III)I"⟩ : MethodName)) hown (mvT hZ (hw _ (List.mem_of_getElem? (i := 28) rfl))) (mvT hZ (hw _ (List.mem_of_getElem? (i := 29) rfl))) (notFace_of_selects (args := #[]) (mvT hZ (hw _ (List.mem_of_getElem? (i := 31) rfl)))) (mvT hZ (hw _ (List.mem_of_getElem? (i := 31) rfl))) (mvT hZ (hw _ (List.mem_of_getElem? (i := 30) rfl))) (by decide) (backOf (W := 0) (rm_fam l Z a0 hw [] o (Int32.ofNat f) (Int32.ofNat t) p5 b kc (own_lv 5) f t (own_set (own_lv 5) (own_set (own_lv 5) (own_set (own_lv 5) (own_set (own_lv 5) (own_set (own_lv 5) (List.replicate (2 * own_lv 5) (2147483647 : Int32)) 0 p1) 1 p2) 2 p3) 3 d) 4 e_) T29.heap n0 sz29 rfl rfl (by decide) (Nat.le_trans ht (by decide)) (Nat.le_trans hf (by decide)) Tr5) hZ (hw _ (List.mem_of_getElem? (i := 32) rfl)) (hw _ (List.mem_of_getElem? (i := 2) rfl)) (by decide) (by decide)) q30a q30c (g := (mkF m 135 #[.val (.int p1), .val (.int p2), .val (.int p3), .val (.long q4), .second, .val (.int p5), .val (.int p6), .val (.int (Int32.ofNat 5)), .val (.int (Int32.ofNat f)), .val (.int (Int32.ofNat t)), .val (.int d), .val (.int e_), .val (.ref o), .unset, .unset] [(.int p5), (.int (Int32.ofNat t)), (.int (Int32.ofNat f)), (.ref o)])) rfl (by rw [hml]; rfl) (Steps.refl _) (argsL := [(.int (Int32.ofNat f)), (.int (Int32.ofNat t)), (.int p5)]) (rest := []) (lenOf own_pd4 rfl) rfl (by show 2 * 0 + _ ≤ _; exact Nat.le_of_eq rfl) (hb hby at_135) (fun _ _ => ⟨rfl, rfl, (by decide : 2 + 0 ≤ _), (by decide : 18 + 0 ≤ _)⟩)
      dsimp only [Pt.U, Pt.locs, Pt.cells, Pt.slots] at X30 l30 y30 z30 st30 hQ30
      rw [l30, y30, z30] at X30
      obtain ⟨rfl, Nq30, e30⟩ := hQ30
      have N30 := Fr.app N29 Nq30
      obtain ⟨gt, h_gt⟩ : ∃ z : Int32, z = (own_fam (own_hitf (own_set (own_lv 5) (own_set (own_lv 5) (own_set (own_lv 5) (own_set (own_lv 5) (own_set (own_lv 5) (List.replicate (2 * own_lv 5) (2147483647 : Int32)) 0 p1) 1 p2) 2 p3) 3 d) 4 e_) p5) (own_lv 5) f t) := ⟨_, rfl⟩
      have h2_gt : (own_fam (own_hitf (own_set (own_lv 5) (own_set (own_lv 5) (own_set (own_lv 5) (own_set (own_lv 5) (own_set (own_lv 5) (List.replicate (2 * own_lv 5) (2147483647 : Int32)) 0 p1) 1 p2) 2 p3) 3 d) 4 e_) p5) (own_lv 5) f t) = gt := h_gt.symm
      have hgt : gt = own_want p1 p2 p3 d e_ (Int32.ofNat f) (Int32.ofNat t) p5 := h_gt.trans (own_case5 p1 p2 p3 d e_ p5 f t hf ht)
      refine ⟨o, gt, T30, _, X30, N30, by rw [e30]; exact sz29, hgt, fun t_ kt => ?_⟩
      show Steps p.tables e below (s₁.setTop (mkF m 55 #[.val (.int p1), .val (.int p2), .val (.int p3), .val (.long q4), .second, .val (.int p5), .val (.int p6), .val (.int (Int32.ofNat 5)), .val (.int (Int32.ofNat f)), .val (.int (Int32.ofNat t)), .val (.int d), .val (.int e_), .unset, .unset, .unset] [])) _
      refine st23 _ ?_
      show Steps p.tables e below (T23.setTop (mkF m 58 #[.val (.int p1), .val (.int p2), .val (.int p3), .val (.long q4), .second, .val (.int p5), .val (.int p6), .val (.int (Int32.ofNat 5)), .val (.int (Int32.ofNat f)), .val (.int (Int32.ofNat t)), .val (.int d), .val (.int e_), .unset, .unset, .unset] [(.ref o)])) _
      refine XS.dup X23.here hx rfl (hb hby at_58) rfl rfl ?_
      show Steps p.tables e below (T23.setTop (mkF m 59 #[.val (.int p1), .val (.int p2), .val (.int p3), .val (.long q4), .second, .val (.int p5), .val (.int p6), .val (.int (Int32.ofNat 5)), .val (.int (Int32.ofNat f)), .val (.int (Int32.ofNat t)), .val (.int d), .val (.int e_), .unset, .unset, .unset] [(.ref o), (.ref o)])) _
      refine XS.iload X23.here hx rfl (hb hby at_59) rfl ?_
      show Steps p.tables e below (T23.setTop (mkF m 61 #[.val (.int p1), .val (.int p2), .val (.int p3), .val (.long q4), .second, .val (.int p5), .val (.int p6), .val (.int (Int32.ofNat 5)), .val (.int (Int32.ofNat f)), .val (.int (Int32.ofNat t)), .val (.int d), .val (.int e_), .unset, .unset, .unset] [(.int (Int32.ofNat 5)), (.ref o), (.ref o)])) _
      refine st24.trans ?_
      show Steps p.tables e below (T24.setTop (mkF m 64 #[.val (.int p1), .val (.int p2), .val (.int p3), .val (.long q4), .second, .val (.int p5), .val (.int p6), .val (.int (Int32.ofNat 5)), .val (.int (Int32.ofNat f)), .val (.int (Int32.ofNat t)), .val (.int d), .val (.int e_), .unset, .unset, .unset] [(.ref o)])) _
      refine XS.astore X24.here hx rfl (hb hby at_64) rfl rfl (l' := #[.val (.int p1), .val (.int p2), .val (.int p3), .val (.long q4), .second, .val (.int p5), .val (.int p6), .val (.int (Int32.ofNat 5)), .val (.int (Int32.ofNat f)), .val (.int (Int32.ofNat t)), .val (.int d), .val (.int e_), .val (.ref o), .unset, .unset]) rfl ?_
      show Steps p.tables e below (T24.setTop (mkF m 66 #[.val (.int p1), .val (.int p2), .val (.int p3), .val (.long q4), .second, .val (.int p5), .val (.int p6), .val (.int (Int32.ofNat 5)), .val (.int (Int32.ofNat f)), .val (.int (Int32.ofNat t)), .val (.int d), .val (.int e_), .val (.ref o), .unset, .unset] [])) _
      refine XS.aload X24.here hx rfl (hb hby at_66) rfl rfl ?_
      show Steps p.tables e below (T24.setTop (mkF m 68 #[.val (.int p1), .val (.int p2), .val (.int p3), .val (.long q4), .second, .val (.int p5), .val (.int p6), .val (.int (Int32.ofNat 5)), .val (.int (Int32.ofNat f)), .val (.int (Int32.ofNat t)), .val (.int d), .val (.int e_), .val (.ref o), .unset, .unset] [(.ref o)])) _
      refine XS.iconst X24.here hx rfl (hb hby at_68) ?_
      show Steps p.tables e below (T24.setTop (mkF m 69 #[.val (.int p1), .val (.int p2), .val (.int p3), .val (.long q4), .second, .val (.int p5), .val (.int p6), .val (.int (Int32.ofNat 5)), .val (.int (Int32.ofNat f)), .val (.int (Int32.ofNat t)), .val (.int d), .val (.int e_), .val (.ref o), .unset, .unset] [(.int (0 : Int32)), (.ref o)])) _
      refine XS.iloadN X24.here hx rfl (hb hby at_69) rfl ?_
      show Steps p.tables e below (T24.setTop (mkF m 70 #[.val (.int p1), .val (.int p2), .val (.int p3), .val (.long q4), .second, .val (.int p5), .val (.int p6), .val (.int (Int32.ofNat 5)), .val (.int (Int32.ofNat f)), .val (.int (Int32.ofNat t)), .val (.int d), .val (.int e_), .val (.ref o), .unset, .unset] [(.int p1), (.int (0 : Int32)), (.ref o)])) _
      refine st25.trans ?_
      show Steps p.tables e below (T25.setTop (mkF m 73 #[.val (.int p1), .val (.int p2), .val (.int p3), .val (.long q4), .second, .val (.int p5), .val (.int p6), .val (.int (Int32.ofNat 5)), .val (.int (Int32.ofNat f)), .val (.int (Int32.ofNat t)), .val (.int d), .val (.int e_), .val (.ref o), .unset, .unset] [])) _
      refine XS.iload X25.here hx rfl (hb hby at_73) rfl ?_
      show Steps p.tables e below (T25.setTop (mkF m 75 #[.val (.int p1), .val (.int p2), .val (.int p3), .val (.long q4), .second, .val (.int p5), .val (.int p6), .val (.int (Int32.ofNat 5)), .val (.int (Int32.ofNat f)), .val (.int (Int32.ofNat t)), .val (.int d), .val (.int e_), .val (.ref o), .unset, .unset] [(.int (Int32.ofNat 5))])) _
      refine XS.iconst X25.here hx rfl (hb hby at_75) ?_
      show Steps p.tables e below (T25.setTop (mkF m 76 #[.val (.int p1), .val (.int p2), .val (.int p3), .val (.long q4), .second, .val (.int p5), .val (.int p6), .val (.int (Int32.ofNat 5)), .val (.int (Int32.ofNat f)), .val (.int (Int32.ofNat t)), .val (.int d), .val (.int e_), .val (.ref o), .unset, .unset] [(.int (1 : Int32)), (.int (Int32.ofNat 5))])) _
      refine XS.icmpNo X25.here hx rfl (hb hby at_76) rfl (tlt (by decide)).2.2.2 ?_
      show Steps p.tables e below (T25.setTop (mkF m 79 #[.val (.int p1), .val (.int p2), .val (.int p3), .val (.long q4), .second, .val (.int p5), .val (.int p6), .val (.int (Int32.ofNat 5)), .val (.int (Int32.ofNat f)), .val (.int (Int32.ofNat t)), .val (.int d), .val (.int e_), .val (.ref o), .unset, .unset] [])) _
      refine XS.aload X25.here hx rfl (hb hby at_79) rfl rfl ?_
      show Steps p.tables e below (T25.setTop (mkF m 81 #[.val (.int p1), .val (.int p2), .val (.int p3), .val (.long q4), .second, .val (.int p5), .val (.int p6), .val (.int (Int32.ofNat 5)), .val (.int (Int32.ofNat f)), .val (.int (Int32.ofNat t)), .val (.int d), .val (.int e_), .val (.ref o), .unset, .unset] [(.ref o)])) _
      refine XS.iconst X25.here hx rfl (hb hby at_81) ?_
      show Steps p.tables e below (T25.setTop (mkF m 82 #[.val (.int p1), .val (.int p2), .val (.int p3), .val (.long q4), .second, .val (.int p5), .val (.int p6), .val (.int (Int32.ofNat 5)), .val (.int (Int32.ofNat f)), .val (.int (Int32.ofNat t)), .val (.int d), .val (.int e_), .val (.ref o), .unset, .unset] [(.int (1 : Int32)), (.ref o)])) _
      refine XS.iloadN X25.here hx rfl (hb hby at_82) rfl ?_
      show Steps p.tables e below (T25.setTop (mkF m 83 #[.val (.int p1), .val (.int p2), .val (.int p3), .val (.long q4), .second, .val (.int p5), .val (.int p6), .val (.int (Int32.ofNat 5)), .val (.int (Int32.ofNat f)), .val (.int (Int32.ofNat t)), .val (.int d), .val (.int e_), .val (.ref o), .unset, .unset] [(.int p2), (.int (1 : Int32)), (.ref o)])) _
      refine st26.trans ?_
      show Steps p.tables e below (T26.setTop (mkF m 86 #[.val (.int p1), .val (.int p2), .val (.int p3), .val (.long q4), .second, .val (.int p5), .val (.int p6), .val (.int (Int32.ofNat 5)), .val (.int (Int32.ofNat f)), .val (.int (Int32.ofNat t)), .val (.int d), .val (.int e_), .val (.ref o), .unset, .unset] [])) _
      refine XS.iload X26.here hx rfl (hb hby at_86) rfl ?_
      show Steps p.tables e below (T26.setTop (mkF m 88 #[.val (.int p1), .val (.int p2), .val (.int p3), .val (.long q4), .second, .val (.int p5), .val (.int p6), .val (.int (Int32.ofNat 5)), .val (.int (Int32.ofNat f)), .val (.int (Int32.ofNat t)), .val (.int d), .val (.int e_), .val (.ref o), .unset, .unset] [(.int (Int32.ofNat 5))])) _
      refine XS.iconst X26.here hx rfl (hb hby at_88) ?_
      show Steps p.tables e below (T26.setTop (mkF m 89 #[.val (.int p1), .val (.int p2), .val (.int p3), .val (.long q4), .second, .val (.int p5), .val (.int p6), .val (.int (Int32.ofNat 5)), .val (.int (Int32.ofNat f)), .val (.int (Int32.ofNat t)), .val (.int d), .val (.int e_), .val (.ref o), .unset, .unset] [(.int (2 : Int32)), (.int (Int32.ofNat 5))])) _
      refine XS.icmpNo X26.here hx rfl (hb hby at_89) rfl (tlt (by decide)).2.2.2 ?_
      show Steps p.tables e below (T26.setTop (mkF m 92 #[.val (.int p1), .val (.int p2), .val (.int p3), .val (.long q4), .second, .val (.int p5), .val (.int p6), .val (.int (Int32.ofNat 5)), .val (.int (Int32.ofNat f)), .val (.int (Int32.ofNat t)), .val (.int d), .val (.int e_), .val (.ref o), .unset, .unset] [])) _
      refine XS.aload X26.here hx rfl (hb hby at_92) rfl rfl ?_
      show Steps p.tables e below (T26.setTop (mkF m 94 #[.val (.int p1), .val (.int p2), .val (.int p3), .val (.long q4), .second, .val (.int p5), .val (.int p6), .val (.int (Int32.ofNat 5)), .val (.int (Int32.ofNat f)), .val (.int (Int32.ofNat t)), .val (.int d), .val (.int e_), .val (.ref o), .unset, .unset] [(.ref o)])) _
      refine XS.iconst X26.here hx rfl (hb hby at_94) ?_
      show Steps p.tables e below (T26.setTop (mkF m 95 #[.val (.int p1), .val (.int p2), .val (.int p3), .val (.long q4), .second, .val (.int p5), .val (.int p6), .val (.int (Int32.ofNat 5)), .val (.int (Int32.ofNat f)), .val (.int (Int32.ofNat t)), .val (.int d), .val (.int e_), .val (.ref o), .unset, .unset] [(.int (2 : Int32)), (.ref o)])) _
      refine XS.iloadN X26.here hx rfl (hb hby at_95) rfl ?_
      show Steps p.tables e below (T26.setTop (mkF m 96 #[.val (.int p1), .val (.int p2), .val (.int p3), .val (.long q4), .second, .val (.int p5), .val (.int p6), .val (.int (Int32.ofNat 5)), .val (.int (Int32.ofNat f)), .val (.int (Int32.ofNat t)), .val (.int d), .val (.int e_), .val (.ref o), .unset, .unset] [(.int p3), (.int (2 : Int32)), (.ref o)])) _
      refine st27.trans ?_
      show Steps p.tables e below (T27.setTop (mkF m 99 #[.val (.int p1), .val (.int p2), .val (.int p3), .val (.long q4), .second, .val (.int p5), .val (.int p6), .val (.int (Int32.ofNat 5)), .val (.int (Int32.ofNat f)), .val (.int (Int32.ofNat t)), .val (.int d), .val (.int e_), .val (.ref o), .unset, .unset] [])) _
      refine XS.iload X27.here hx rfl (hb hby at_99) rfl ?_
      show Steps p.tables e below (T27.setTop (mkF m 101 #[.val (.int p1), .val (.int p2), .val (.int p3), .val (.long q4), .second, .val (.int p5), .val (.int p6), .val (.int (Int32.ofNat 5)), .val (.int (Int32.ofNat f)), .val (.int (Int32.ofNat t)), .val (.int d), .val (.int e_), .val (.ref o), .unset, .unset] [(.int (Int32.ofNat 5))])) _
      refine XS.iconst X27.here hx rfl (hb hby at_101) ?_
      show Steps p.tables e below (T27.setTop (mkF m 102 #[.val (.int p1), .val (.int p2), .val (.int p3), .val (.long q4), .second, .val (.int p5), .val (.int p6), .val (.int (Int32.ofNat 5)), .val (.int (Int32.ofNat f)), .val (.int (Int32.ofNat t)), .val (.int d), .val (.int e_), .val (.ref o), .unset, .unset] [(.int (3 : Int32)), (.int (Int32.ofNat 5))])) _
      refine XS.icmpNo X27.here hx rfl (hb hby at_102) rfl (tlt (by decide)).2.2.2 ?_
      show Steps p.tables e below (T27.setTop (mkF m 105 #[.val (.int p1), .val (.int p2), .val (.int p3), .val (.long q4), .second, .val (.int p5), .val (.int p6), .val (.int (Int32.ofNat 5)), .val (.int (Int32.ofNat f)), .val (.int (Int32.ofNat t)), .val (.int d), .val (.int e_), .val (.ref o), .unset, .unset] [])) _
      refine XS.aload X27.here hx rfl (hb hby at_105) rfl rfl ?_
      show Steps p.tables e below (T27.setTop (mkF m 107 #[.val (.int p1), .val (.int p2), .val (.int p3), .val (.long q4), .second, .val (.int p5), .val (.int p6), .val (.int (Int32.ofNat 5)), .val (.int (Int32.ofNat f)), .val (.int (Int32.ofNat t)), .val (.int d), .val (.int e_), .val (.ref o), .unset, .unset] [(.ref o)])) _
      refine XS.iconst X27.here hx rfl (hb hby at_107) ?_
      show Steps p.tables e below (T27.setTop (mkF m 108 #[.val (.int p1), .val (.int p2), .val (.int p3), .val (.long q4), .second, .val (.int p5), .val (.int p6), .val (.int (Int32.ofNat 5)), .val (.int (Int32.ofNat f)), .val (.int (Int32.ofNat t)), .val (.int d), .val (.int e_), .val (.ref o), .unset, .unset] [(.int (3 : Int32)), (.ref o)])) _
      refine XS.iload X27.here hx rfl (hb hby at_108) rfl ?_
      show Steps p.tables e below (T27.setTop (mkF m 110 #[.val (.int p1), .val (.int p2), .val (.int p3), .val (.long q4), .second, .val (.int p5), .val (.int p6), .val (.int (Int32.ofNat 5)), .val (.int (Int32.ofNat f)), .val (.int (Int32.ofNat t)), .val (.int d), .val (.int e_), .val (.ref o), .unset, .unset] [(.int d), (.int (3 : Int32)), (.ref o)])) _
      refine st28.trans ?_
      show Steps p.tables e below (T28.setTop (mkF m 113 #[.val (.int p1), .val (.int p2), .val (.int p3), .val (.long q4), .second, .val (.int p5), .val (.int p6), .val (.int (Int32.ofNat 5)), .val (.int (Int32.ofNat f)), .val (.int (Int32.ofNat t)), .val (.int d), .val (.int e_), .val (.ref o), .unset, .unset] [])) _
      refine XS.iload X28.here hx rfl (hb hby at_113) rfl ?_
      show Steps p.tables e below (T28.setTop (mkF m 115 #[.val (.int p1), .val (.int p2), .val (.int p3), .val (.long q4), .second, .val (.int p5), .val (.int p6), .val (.int (Int32.ofNat 5)), .val (.int (Int32.ofNat f)), .val (.int (Int32.ofNat t)), .val (.int d), .val (.int e_), .val (.ref o), .unset, .unset] [(.int (Int32.ofNat 5))])) _
      refine XS.iconst X28.here hx rfl (hb hby at_115) ?_
      show Steps p.tables e below (T28.setTop (mkF m 116 #[.val (.int p1), .val (.int p2), .val (.int p3), .val (.long q4), .second, .val (.int p5), .val (.int p6), .val (.int (Int32.ofNat 5)), .val (.int (Int32.ofNat f)), .val (.int (Int32.ofNat t)), .val (.int d), .val (.int e_), .val (.ref o), .unset, .unset] [(.int (4 : Int32)), (.int (Int32.ofNat 5))])) _
      refine XS.icmpNo X28.here hx rfl (hb hby at_116) rfl (tlt (by decide)).2.2.2 ?_
      show Steps p.tables e below (T28.setTop (mkF m 119 #[.val (.int p1), .val (.int p2), .val (.int p3), .val (.long q4), .second, .val (.int p5), .val (.int p6), .val (.int (Int32.ofNat 5)), .val (.int (Int32.ofNat f)), .val (.int (Int32.ofNat t)), .val (.int d), .val (.int e_), .val (.ref o), .unset, .unset] [])) _
      refine XS.aload X28.here hx rfl (hb hby at_119) rfl rfl ?_
      show Steps p.tables e below (T28.setTop (mkF m 121 #[.val (.int p1), .val (.int p2), .val (.int p3), .val (.long q4), .second, .val (.int p5), .val (.int p6), .val (.int (Int32.ofNat 5)), .val (.int (Int32.ofNat f)), .val (.int (Int32.ofNat t)), .val (.int d), .val (.int e_), .val (.ref o), .unset, .unset] [(.ref o)])) _
      refine XS.iconst X28.here hx rfl (hb hby at_121) ?_
      show Steps p.tables e below (T28.setTop (mkF m 122 #[.val (.int p1), .val (.int p2), .val (.int p3), .val (.long q4), .second, .val (.int p5), .val (.int p6), .val (.int (Int32.ofNat 5)), .val (.int (Int32.ofNat f)), .val (.int (Int32.ofNat t)), .val (.int d), .val (.int e_), .val (.ref o), .unset, .unset] [(.int (4 : Int32)), (.ref o)])) _
      refine XS.iload X28.here hx rfl (hb hby at_122) rfl ?_
      show Steps p.tables e below (T28.setTop (mkF m 124 #[.val (.int p1), .val (.int p2), .val (.int p3), .val (.long q4), .second, .val (.int p5), .val (.int p6), .val (.int (Int32.ofNat 5)), .val (.int (Int32.ofNat f)), .val (.int (Int32.ofNat t)), .val (.int d), .val (.int e_), .val (.ref o), .unset, .unset] [(.int e_), (.int (4 : Int32)), (.ref o)])) _
      refine st29.trans ?_
      show Steps p.tables e below (T29.setTop (mkF m 127 #[.val (.int p1), .val (.int p2), .val (.int p3), .val (.long q4), .second, .val (.int p5), .val (.int p6), .val (.int (Int32.ofNat 5)), .val (.int (Int32.ofNat f)), .val (.int (Int32.ofNat t)), .val (.int d), .val (.int e_), .val (.ref o), .unset, .unset] [])) _
      refine XS.aload X29.here hx rfl (hb hby at_127) rfl rfl ?_
      show Steps p.tables e below (T29.setTop (mkF m 129 #[.val (.int p1), .val (.int p2), .val (.int p3), .val (.long q4), .second, .val (.int p5), .val (.int p6), .val (.int (Int32.ofNat 5)), .val (.int (Int32.ofNat f)), .val (.int (Int32.ofNat t)), .val (.int d), .val (.int e_), .val (.ref o), .unset, .unset] [(.ref o)])) _
      refine XS.iload X29.here hx rfl (hb hby at_129) rfl ?_
      show Steps p.tables e below (T29.setTop (mkF m 131 #[.val (.int p1), .val (.int p2), .val (.int p3), .val (.long q4), .second, .val (.int p5), .val (.int p6), .val (.int (Int32.ofNat 5)), .val (.int (Int32.ofNat f)), .val (.int (Int32.ofNat t)), .val (.int d), .val (.int e_), .val (.ref o), .unset, .unset] [(.int (Int32.ofNat f)), (.ref o)])) _
      refine XS.iload X29.here hx rfl (hb hby at_131) rfl ?_
      show Steps p.tables e below (T29.setTop (mkF m 133 #[.val (.int p1), .val (.int p2), .val (.int p3), .val (.long q4), .second, .val (.int p5), .val (.int p6), .val (.int (Int32.ofNat 5)), .val (.int (Int32.ofNat f)), .val (.int (Int32.ofNat t)), .val (.int d), .val (.int e_), .val (.ref o), .unset, .unset] [(.int (Int32.ofNat t)), (.int (Int32.ofNat f)), (.ref o)])) _
      refine XS.iload X29.here hx rfl (hb hby at_133) rfl ?_
      show Steps p.tables e below (T29.setTop (mkF m 135 #[.val (.int p1), .val (.int p2), .val (.int p3), .val (.long q4), .second, .val (.int p5), .val (.int p6), .val (.int (Int32.ofNat 5)), .val (.int (Int32.ofNat f)), .val (.int (Int32.ofNat t)), .val (.int d), .val (.int e_), .val (.ref o), .unset, .unset] [(.int p5), (.int (Int32.ofNat t)), (.int (Int32.ofNat f)), (.ref o)])) _
      refine st30.trans ?_
      show Steps p.tables e below (T30.setTop (mkF m 138 #[.val (.int p1), .val (.int p2), .val (.int p3), .val (.long q4), .second, .val (.int p5), .val (.int p6), .val (.int (Int32.ofNat 5)), .val (.int (Int32.ofNat f)), .val (.int (Int32.ofNat t)), .val (.int d), .val (.int e_), .val (.ref o), .unset, .unset] [(.int (own_fam (own_hitf (own_set (own_lv 5) (own_set (own_lv 5) (own_set (own_lv 5) (own_set (own_lv 5) (own_set (own_lv 5) (List.replicate (2 * own_lv 5) (2147483647 : Int32)) 0 p1) 1 p2) 2 p3) 3 d) 4 e_) p5) (own_lv 5) f t))])) _
      rw [h2_gt]
      show Steps p.tables e below (T30.setTop (mkF m 138 #[.val (.int p1), .val (.int p2), .val (.int p3), .val (.long q4), .second, .val (.int p5), .val (.int p6), .val (.int (Int32.ofNat 5)), .val (.int (Int32.ofNat f)), .val (.int (Int32.ofNat t)), .val (.int d), .val (.int e_), .val (.ref o), .unset, .unset] [(.int gt)])) _
      refine XS.istore X30.here hx rfl (hb hby at_138) rfl (l' := #[.val (.int p1), .val (.int p2), .val (.int p3), .val (.long q4), .second, .val (.int p5), .val (.int p6), .val (.int (Int32.ofNat 5)), .val (.int (Int32.ofNat f)), .val (.int (Int32.ofNat t)), .val (.int d), .val (.int e_), .val (.ref o), .val (.int gt), .unset]) rfl ?_
      exact kt
  have pB : ∀ tt, Steps p.tables e below (T9.setTop (mkF m 143 #[.val (.int p1), .val (.int p2), .val (.int p3), .val (.long q4), .second, .val (.int p5), .val (.int p6), .val (.int (Int32.ofNat nn)), .val (.int (Int32.ofNat f)), .val (.int (Int32.ofNat t)), .val (.int d), .val (.int e_), .val (.ref o), .val (.int gt), .val (.int (-1 : Int32))] [])) tt → Steps p.tables e below (s₁.setTop (mkF m 0 #[.val (.int p1), .val (.int p2), .val (.int p3), .val (.long q4), .second, .val (.int p5), .val (.int p6), .unset, .unset, .unset, .unset, .unset, .unset, .unset, .unset] [])) tt := by
    intro tt kt
    show Steps p.tables e below (s₁.setTop (mkF m 0 #[.val (.int p1), .val (.int p2), .val (.int p3), .val (.long q4), .second, .val (.int p5), .val (.int p6), .unset, .unset, .unset, .unset, .unset, .unset, .unset, .unset] [])) _
    refine pA _ ?_
    show Steps p.tables e below (s₁.setTop (mkF m 55 #[.val (.int p1), .val (.int p2), .val (.int p3), .val (.long q4), .second, .val (.int p5), .val (.int p6), .val (.int (Int32.ofNat nn)), .val (.int (Int32.ofNat f)), .val (.int (Int32.ofNat t)), .val (.int d), .val (.int e_), .unset, .unset, .unset] [])) _
    refine st9 _ ?_
    show Steps p.tables e below (T9.setTop (mkF m 140 #[.val (.int p1), .val (.int p2), .val (.int p3), .val (.long q4), .second, .val (.int p5), .val (.int p6), .val (.int (Int32.ofNat nn)), .val (.int (Int32.ofNat f)), .val (.int (Int32.ofNat t)), .val (.int d), .val (.int e_), .val (.ref o), .val (.int gt), .unset] [])) _
    refine XS.iconst X9.here hx rfl (hb hby at_140) ?_
    show Steps p.tables e below (T9.setTop (mkF m 141 #[.val (.int p1), .val (.int p2), .val (.int p3), .val (.long q4), .second, .val (.int p5), .val (.int p6), .val (.int (Int32.ofNat nn)), .val (.int (Int32.ofNat f)), .val (.int (Int32.ofNat t)), .val (.int d), .val (.int e_), .val (.ref o), .val (.int gt), .unset] [(.int (-1 : Int32))])) _
    refine XS.istore X9.here hx rfl (hb hby at_141) rfl (l' := #[.val (.int p1), .val (.int p2), .val (.int p3), .val (.long q4), .second, .val (.int p5), .val (.int p6), .val (.int (Int32.ofNat nn)), .val (.int (Int32.ofNat f)), .val (.int (Int32.ofNat t)), .val (.int d), .val (.int e_), .val (.ref o), .val (.int gt), .val (.int (-1 : Int32))]) rfl ?_
    exact kt
  obtain ⟨_, _, ⟨T31, L31, k31, n31⟩, -, X31, ⟨Lc31, hQ31, l31, y31, z31⟩, st31⟩ := Jvm.LawKit.callS X9 hx (y := (⟨"com/example/unknot/unknot/sp/MinTreeFirstAtMostPinLaw", "hit", "(IIIII)Z"⟩ : MethodName)) hown (mvT hZ (hw _ (List.mem_of_getElem? (i := 33) rfl))) (mvT hZ (hw _ (List.mem_of_getElem? (i := 34) rfl))) (mvT hZ (hw _ (List.mem_of_getElem? (i := 35) rfl))) (mvT hZ (hw _ (List.mem_of_getElem? (i := 36) rfl))) (by decide) (backOf (W := 0) (rm_hit l Z a0 hw [] (0 : Int32) p1 (Int32.ofNat f) (Int32.ofNat t) p5 T9.heap n0 sz9) hZ (hw _ (List.mem_of_getElem? (i := 36) rfl)) (hw _ (List.mem_of_getElem? (i := 35) rfl)) (by decide) (by decide)) (g := (mkF m 151 #[.val (.int p1), .val (.int p2), .val (.int p3), .val (.long q4), .second, .val (.int p5), .val (.int p6), .val (.int (Int32.ofNat nn)), .val (.int (Int32.ofNat f)), .val (.int (Int32.ofNat t)), .val (.int d), .val (.int e_), .val (.ref o), .val (.int gt), .val (.int (-1 : Int32))] [(.int p5), (.int (Int32.ofNat t)), (.int (Int32.ofNat f)), (.int p1), (.int (0 : Int32))])) rfl (by rw [hml]; rfl) (argsL := [(.int (0 : Int32)), (.int p1), (.int (Int32.ofNat f)), (.int (Int32.ofNat t)), (.int p5)]) (rest := []) (lenOf own_pd5 rfl) rfl (by show 2 * 0 + _ ≤ _; exact Nat.le_of_eq rfl) (hb hby at_151) (fun _ _ => ⟨rfl, rfl, (by decide : 2 + 0 ≤ _), (by decide : 18 + 0 ≤ _)⟩)
  dsimp only [Pt.U, Pt.locs, Pt.cells, Pt.slots] at X31 l31 y31 z31 st31 hQ31
  rw [l31, y31, z31] at X31
  obtain ⟨rfl, Nq31, e31⟩ := hQ31
  have N31 := Fr.app N9 Nq31
  have pC0 : ∀ tt, Steps p.tables e below (T31.setTop (mkF m 154 #[.val (.int p1), .val (.int p2), .val (.int p3), .val (.long q4), .second, .val (.int p5), .val (.int p6), .val (.int (Int32.ofNat nn)), .val (.int (Int32.ofNat f)), .val (.int (Int32.ofNat t)), .val (.int d), .val (.int e_), .val (.ref o), .val (.int gt), .val (.int (-1 : Int32))] [(.int (own_h (0 : Int32) p1 (Int32.ofNat f) (Int32.ofNat t) p5))])) tt → Steps p.tables e below (s₁.setTop (mkF m 0 #[.val (.int p1), .val (.int p2), .val (.int p3), .val (.long q4), .second, .val (.int p5), .val (.int p6), .unset, .unset, .unset, .unset, .unset, .unset, .unset, .unset] [])) tt := by
    intro tt kt
    show Steps p.tables e below (s₁.setTop (mkF m 0 #[.val (.int p1), .val (.int p2), .val (.int p3), .val (.long q4), .second, .val (.int p5), .val (.int p6), .unset, .unset, .unset, .unset, .unset, .unset, .unset, .unset] [])) _
    refine pB _ ?_
    show Steps p.tables e below (T9.setTop (mkF m 143 #[.val (.int p1), .val (.int p2), .val (.int p3), .val (.long q4), .second, .val (.int p5), .val (.int p6), .val (.int (Int32.ofNat nn)), .val (.int (Int32.ofNat f)), .val (.int (Int32.ofNat t)), .val (.int d), .val (.int e_), .val (.ref o), .val (.int gt), .val (.int (-1 : Int32))] [])) _
    refine XS.iconst X9.here hx rfl (hb hby at_143) ?_
    show Steps p.tables e below (T9.setTop (mkF m 144 #[.val (.int p1), .val (.int p2), .val (.int p3), .val (.long q4), .second, .val (.int p5), .val (.int p6), .val (.int (Int32.ofNat nn)), .val (.int (Int32.ofNat f)), .val (.int (Int32.ofNat t)), .val (.int d), .val (.int e_), .val (.ref o), .val (.int gt), .val (.int (-1 : Int32))] [(.int (0 : Int32))])) _
    refine XS.iloadN X9.here hx rfl (hb hby at_144) rfl ?_
    show Steps p.tables e below (T9.setTop (mkF m 145 #[.val (.int p1), .val (.int p2), .val (.int p3), .val (.long q4), .second, .val (.int p5), .val (.int p6), .val (.int (Int32.ofNat nn)), .val (.int (Int32.ofNat f)), .val (.int (Int32.ofNat t)), .val (.int d), .val (.int e_), .val (.ref o), .val (.int gt), .val (.int (-1 : Int32))] [(.int p1), (.int (0 : Int32))])) _
    refine XS.iload X9.here hx rfl (hb hby at_145) rfl ?_
    show Steps p.tables e below (T9.setTop (mkF m 147 #[.val (.int p1), .val (.int p2), .val (.int p3), .val (.long q4), .second, .val (.int p5), .val (.int p6), .val (.int (Int32.ofNat nn)), .val (.int (Int32.ofNat f)), .val (.int (Int32.ofNat t)), .val (.int d), .val (.int e_), .val (.ref o), .val (.int gt), .val (.int (-1 : Int32))] [(.int (Int32.ofNat f)), (.int p1), (.int (0 : Int32))])) _
    refine XS.iload X9.here hx rfl (hb hby at_147) rfl ?_
    show Steps p.tables e below (T9.setTop (mkF m 149 #[.val (.int p1), .val (.int p2), .val (.int p3), .val (.long q4), .second, .val (.int p5), .val (.int p6), .val (.int (Int32.ofNat nn)), .val (.int (Int32.ofNat f)), .val (.int (Int32.ofNat t)), .val (.int d), .val (.int e_), .val (.ref o), .val (.int gt), .val (.int (-1 : Int32))] [(.int (Int32.ofNat t)), (.int (Int32.ofNat f)), (.int p1), (.int (0 : Int32))])) _
    refine XS.iload X9.here hx rfl (hb hby at_149) rfl ?_
    show Steps p.tables e below (T9.setTop (mkF m 151 #[.val (.int p1), .val (.int p2), .val (.int p3), .val (.long q4), .second, .val (.int p5), .val (.int p6), .val (.int (Int32.ofNat nn)), .val (.int (Int32.ofNat f)), .val (.int (Int32.ofNat t)), .val (.int d), .val (.int e_), .val (.ref o), .val (.int gt), .val (.int (-1 : Int32))] [(.int p5), (.int (Int32.ofNat t)), (.int (Int32.ofNat f)), (.int p1), (.int (0 : Int32))])) _
    refine st31 _ ?_
    exact kt
  by_cases c0 : (own_h (0 : Int32) p1 (Int32.ofNat f) (Int32.ofNat t) p5) = (0 : Int32)
  · obtain ⟨_, _, ⟨T32, L32, k32, n32⟩, -, X32, ⟨Lc32, hQ32, l32, y32, z32⟩, st32⟩ := Jvm.LawKit.callS X31 hx (y := (⟨"com/example/unknot/unknot/sp/MinTreeFirstAtMostPinLaw", "hit", "(IIIII)Z"⟩ : MethodName)) hown (mvT hZ (hw _ (List.mem_of_getElem? (i := 33) rfl))) (mvT hZ (hw _ (List.mem_of_getElem? (i := 34) rfl))) (mvT hZ (hw _ (List.mem_of_getElem? (i := 35) rfl))) (mvT hZ (hw _ (List.mem_of_getElem? (i := 36) rfl))) (by decide) (backOf (W := 0) (rm_hit l Z a0 hw [] (1 : Int32) p2 (Int32.ofNat f) (Int32.ofNat t) p5 T9.heap n0 sz9) hZ (hw _ (List.mem_of_getElem? (i := 36) rfl)) (hw _ (List.mem_of_getElem? (i := 35) rfl)) (by decide) (by decide)) (g := (mkF m 171 #[.val (.int p1), .val (.int p2), .val (.int p3), .val (.long q4), .second, .val (.int p5), .val (.int p6), .val (.int (Int32.ofNat nn)), .val (.int (Int32.ofNat f)), .val (.int (Int32.ofNat t)), .val (.int d), .val (.int e_), .val (.ref o), .val (.int gt), .val (.int (-1 : Int32))] [(.int p5), (.int (Int32.ofNat t)), (.int (Int32.ofNat f)), (.int p2), (.int (1 : Int32))])) rfl (by rw [hml]; rfl) (argsL := [(.int (1 : Int32)), (.int p2), (.int (Int32.ofNat f)), (.int (Int32.ofNat t)), (.int p5)]) (rest := []) (lenOf own_pd5 rfl) rfl (by show 2 * 0 + _ ≤ _; exact Nat.le_of_eq rfl) (hb hby at_171) (fun _ _ => ⟨rfl, e31, (by decide : 2 + 0 ≤ _), (by decide : 18 + 0 ≤ _)⟩)
    dsimp only [Pt.U, Pt.locs, Pt.cells, Pt.slots] at X32 l32 y32 z32 st32 hQ32
    rw [l32, y32, z32] at X32
    obtain ⟨rfl, Nq32, e32⟩ := hQ32
    have N32 := Fr.app N31 Nq32
    have pC1 : ∀ tt, Steps p.tables e below (T32.setTop (mkF m 174 #[.val (.int p1), .val (.int p2), .val (.int p3), .val (.long q4), .second, .val (.int p5), .val (.int p6), .val (.int (Int32.ofNat nn)), .val (.int (Int32.ofNat f)), .val (.int (Int32.ofNat t)), .val (.int d), .val (.int e_), .val (.ref o), .val (.int gt), .val (.int (-1 : Int32))] [(.int (own_h (1 : Int32) p2 (Int32.ofNat f) (Int32.ofNat t) p5))])) tt → Steps p.tables e below (s₁.setTop (mkF m 0 #[.val (.int p1), .val (.int p2), .val (.int p3), .val (.long q4), .second, .val (.int p5), .val (.int p6), .unset, .unset, .unset, .unset, .unset, .unset, .unset, .unset] [])) tt := by
      intro tt kt
      show Steps p.tables e below (s₁.setTop (mkF m 0 #[.val (.int p1), .val (.int p2), .val (.int p3), .val (.long q4), .second, .val (.int p5), .val (.int p6), .unset, .unset, .unset, .unset, .unset, .unset, .unset, .unset] [])) _
      refine pC0 _ ?_
      show Steps p.tables e below (T31.setTop (mkF m 154 #[.val (.int p1), .val (.int p2), .val (.int p3), .val (.long q4), .second, .val (.int p5), .val (.int p6), .val (.int (Int32.ofNat nn)), .val (.int (Int32.ofNat f)), .val (.int (Int32.ofNat t)), .val (.int d), .val (.int e_), .val (.ref o), .val (.int gt), .val (.int (-1 : Int32))] [(.int (own_h (0 : Int32) p1 (Int32.ofNat f) (Int32.ofNat t) p5))])) _
      refine XS.ifYes X31.here hx rfl (pc0 := 154) (pc' := 163) rfl (hb hby at_154) rfl ((if0 _ _).trans (teq c0).1) (by decide) (by decide) ?_
      show Steps p.tables e below (T31.setTop (mkF m 163 #[.val (.int p1), .val (.int p2), .val (.int p3), .val (.long q4), .second, .val (.int p5), .val (.int p6), .val (.int (Int32.ofNat nn)), .val (.int (Int32.ofNat f)), .val (.int (Int32.ofNat t)), .val (.int d), .val (.int e_), .val (.ref o), .val (.int gt), .val (.int (-1 : Int32))] [])) _
      refine XS.iconst X31.here hx rfl (hb hby at_163) ?_
      show Steps p.tables e below (T31.setTop (mkF m 164 #[.val (.int p1), .val (.int p2), .val (.int p3), .val (.long q4), .second, .val (.int p5), .val (.int p6), .val (.int (Int32.ofNat nn)), .val (.int (Int32.ofNat f)), .val (.int (Int32.ofNat t)), .val (.int d), .val (.int e_), .val (.ref o), .val (.int gt), .val (.int (-1 : Int32))] [(.int (1 : Int32))])) _
      refine XS.iloadN X31.here hx rfl (hb hby at_164) rfl ?_
      show Steps p.tables e below (T31.setTop (mkF m 165 #[.val (.int p1), .val (.int p2), .val (.int p3), .val (.long q4), .second, .val (.int p5), .val (.int p6), .val (.int (Int32.ofNat nn)), .val (.int (Int32.ofNat f)), .val (.int (Int32.ofNat t)), .val (.int d), .val (.int e_), .val (.ref o), .val (.int gt), .val (.int (-1 : Int32))] [(.int p2), (.int (1 : Int32))])) _
      refine XS.iload X31.here hx rfl (hb hby at_165) rfl ?_
      show Steps p.tables e below (T31.setTop (mkF m 167 #[.val (.int p1), .val (.int p2), .val (.int p3), .val (.long q4), .second, .val (.int p5), .val (.int p6), .val (.int (Int32.ofNat nn)), .val (.int (Int32.ofNat f)), .val (.int (Int32.ofNat t)), .val (.int d), .val (.int e_), .val (.ref o), .val (.int gt), .val (.int (-1 : Int32))] [(.int (Int32.ofNat f)), (.int p2), (.int (1 : Int32))])) _
      refine XS.iload X31.here hx rfl (hb hby at_167) rfl ?_
      show Steps p.tables e below (T31.setTop (mkF m 169 #[.val (.int p1), .val (.int p2), .val (.int p3), .val (.long q4), .second, .val (.int p5), .val (.int p6), .val (.int (Int32.ofNat nn)), .val (.int (Int32.ofNat f)), .val (.int (Int32.ofNat t)), .val (.int d), .val (.int e_), .val (.ref o), .val (.int gt), .val (.int (-1 : Int32))] [(.int (Int32.ofNat t)), (.int (Int32.ofNat f)), (.int p2), (.int (1 : Int32))])) _
      refine XS.iload X31.here hx rfl (hb hby at_169) rfl ?_
      show Steps p.tables e below (T31.setTop (mkF m 171 #[.val (.int p1), .val (.int p2), .val (.int p3), .val (.long q4), .second, .val (.int p5), .val (.int p6), .val (.int (Int32.ofNat nn)), .val (.int (Int32.ofNat f)), .val (.int (Int32.ofNat t)), .val (.int d), .val (.int e_), .val (.ref o), .val (.int gt), .val (.int (-1 : Int32))] [(.int p5), (.int (Int32.ofNat t)), (.int (Int32.ofNat f)), (.int p2), (.int (1 : Int32))])) _
      refine st32 _ ?_
      exact kt
    by_cases c1 : (own_h (1 : Int32) p2 (Int32.ofNat f) (Int32.ofNat t) p5) = (0 : Int32)
    · obtain ⟨_, _, ⟨T33, L33, k33, n33⟩, -, X33, ⟨Lc33, hQ33, l33, y33, z33⟩, st33⟩ := Jvm.LawKit.callS X32 hx (y := (⟨"com/example/unknot/unknot/sp/MinTreeFirstAtMostPinLaw", "hit", "(IIIII)Z"⟩ : MethodName)) hown (mvT hZ (hw _ (List.mem_of_getElem? (i := 33) rfl))) (mvT hZ (hw _ (List.mem_of_getElem? (i := 34) rfl))) (mvT hZ (hw _ (List.mem_of_getElem? (i := 35) rfl))) (mvT hZ (hw _ (List.mem_of_getElem? (i := 36) rfl))) (by decide) (backOf (W := 0) (rm_hit l Z a0 hw [] (2 : Int32) p3 (Int32.ofNat f) (Int32.ofNat t) p5 T9.heap n0 sz9) hZ (hw _ (List.mem_of_getElem? (i := 36) rfl)) (hw _ (List.mem_of_getElem? (i := 35) rfl)) (by decide) (by decide)) (g := (mkF m 191 #[.val (.int p1), .val (.int p2), .val (.int p3), .val (.long q4), .second, .val (.int p5), .val (.int p6), .val (.int (Int32.ofNat nn)), .val (.int (Int32.ofNat f)), .val (.int (Int32.ofNat t)), .val (.int d), .val (.int e_), .val (.ref o), .val (.int gt), .val (.int (-1 : Int32))] [(.int p5), (.int (Int32.ofNat t)), (.int (Int32.ofNat f)), (.int p3), (.int (2 : Int32))])) rfl (by rw [hml]; rfl) (argsL := [(.int (2 : Int32)), (.int p3), (.int (Int32.ofNat f)), (.int (Int32.ofNat t)), (.int p5)]) (rest := []) (lenOf own_pd5 rfl) rfl (by show 2 * 0 + _ ≤ _; exact Nat.le_of_eq rfl) (hb hby at_191) (fun _ _ => ⟨rfl, e32, (by decide : 2 + 0 ≤ _), (by decide : 18 + 0 ≤ _)⟩)
      dsimp only [Pt.U, Pt.locs, Pt.cells, Pt.slots] at X33 l33 y33 z33 st33 hQ33
      rw [l33, y33, z33] at X33
      obtain ⟨rfl, Nq33, e33⟩ := hQ33
      have N33 := Fr.app N32 Nq33
      have pC2 : ∀ tt, Steps p.tables e below (T33.setTop (mkF m 194 #[.val (.int p1), .val (.int p2), .val (.int p3), .val (.long q4), .second, .val (.int p5), .val (.int p6), .val (.int (Int32.ofNat nn)), .val (.int (Int32.ofNat f)), .val (.int (Int32.ofNat t)), .val (.int d), .val (.int e_), .val (.ref o), .val (.int gt), .val (.int (-1 : Int32))] [(.int (own_h (2 : Int32) p3 (Int32.ofNat f) (Int32.ofNat t) p5))])) tt → Steps p.tables e below (s₁.setTop (mkF m 0 #[.val (.int p1), .val (.int p2), .val (.int p3), .val (.long q4), .second, .val (.int p5), .val (.int p6), .unset, .unset, .unset, .unset, .unset, .unset, .unset, .unset] [])) tt := by
        intro tt kt
        show Steps p.tables e below (s₁.setTop (mkF m 0 #[.val (.int p1), .val (.int p2), .val (.int p3), .val (.long q4), .second, .val (.int p5), .val (.int p6), .unset, .unset, .unset, .unset, .unset, .unset, .unset, .unset] [])) _
        refine pC1 _ ?_
        show Steps p.tables e below (T32.setTop (mkF m 174 #[.val (.int p1), .val (.int p2), .val (.int p3), .val (.long q4), .second, .val (.int p5), .val (.int p6), .val (.int (Int32.ofNat nn)), .val (.int (Int32.ofNat f)), .val (.int (Int32.ofNat t)), .val (.int d), .val (.int e_), .val (.ref o), .val (.int gt), .val (.int (-1 : Int32))] [(.int (own_h (1 : Int32) p2 (Int32.ofNat f) (Int32.ofNat t) p5))])) _
        refine XS.ifYes X32.here hx rfl (pc0 := 174) (pc' := 183) rfl (hb hby at_174) rfl ((if0 _ _).trans (teq c1).1) (by decide) (by decide) ?_
        show Steps p.tables e below (T32.setTop (mkF m 183 #[.val (.int p1), .val (.int p2), .val (.int p3), .val (.long q4), .second, .val (.int p5), .val (.int p6), .val (.int (Int32.ofNat nn)), .val (.int (Int32.ofNat f)), .val (.int (Int32.ofNat t)), .val (.int d), .val (.int e_), .val (.ref o), .val (.int gt), .val (.int (-1 : Int32))] [])) _
        refine XS.iconst X32.here hx rfl (hb hby at_183) ?_
        show Steps p.tables e below (T32.setTop (mkF m 184 #[.val (.int p1), .val (.int p2), .val (.int p3), .val (.long q4), .second, .val (.int p5), .val (.int p6), .val (.int (Int32.ofNat nn)), .val (.int (Int32.ofNat f)), .val (.int (Int32.ofNat t)), .val (.int d), .val (.int e_), .val (.ref o), .val (.int gt), .val (.int (-1 : Int32))] [(.int (2 : Int32))])) _
        refine XS.iloadN X32.here hx rfl (hb hby at_184) rfl ?_
        show Steps p.tables e below (T32.setTop (mkF m 185 #[.val (.int p1), .val (.int p2), .val (.int p3), .val (.long q4), .second, .val (.int p5), .val (.int p6), .val (.int (Int32.ofNat nn)), .val (.int (Int32.ofNat f)), .val (.int (Int32.ofNat t)), .val (.int d), .val (.int e_), .val (.ref o), .val (.int gt), .val (.int (-1 : Int32))] [(.int p3), (.int (2 : Int32))])) _
        refine XS.iload X32.here hx rfl (hb hby at_185) rfl ?_
        show Steps p.tables e below (T32.setTop (mkF m 187 #[.val (.int p1), .val (.int p2), .val (.int p3), .val (.long q4), .second, .val (.int p5), .val (.int p6), .val (.int (Int32.ofNat nn)), .val (.int (Int32.ofNat f)), .val (.int (Int32.ofNat t)), .val (.int d), .val (.int e_), .val (.ref o), .val (.int gt), .val (.int (-1 : Int32))] [(.int (Int32.ofNat f)), (.int p3), (.int (2 : Int32))])) _
        refine XS.iload X32.here hx rfl (hb hby at_187) rfl ?_
        show Steps p.tables e below (T32.setTop (mkF m 189 #[.val (.int p1), .val (.int p2), .val (.int p3), .val (.long q4), .second, .val (.int p5), .val (.int p6), .val (.int (Int32.ofNat nn)), .val (.int (Int32.ofNat f)), .val (.int (Int32.ofNat t)), .val (.int d), .val (.int e_), .val (.ref o), .val (.int gt), .val (.int (-1 : Int32))] [(.int (Int32.ofNat t)), (.int (Int32.ofNat f)), (.int p3), (.int (2 : Int32))])) _
        refine XS.iload X32.here hx rfl (hb hby at_189) rfl ?_
        show Steps p.tables e below (T32.setTop (mkF m 191 #[.val (.int p1), .val (.int p2), .val (.int p3), .val (.long q4), .second, .val (.int p5), .val (.int p6), .val (.int (Int32.ofNat nn)), .val (.int (Int32.ofNat f)), .val (.int (Int32.ofNat t)), .val (.int d), .val (.int e_), .val (.ref o), .val (.int gt), .val (.int (-1 : Int32))] [(.int p5), (.int (Int32.ofNat t)), (.int (Int32.ofNat f)), (.int p3), (.int (2 : Int32))])) _
        refine st33 _ ?_
        exact kt
      by_cases c2 : (own_h (2 : Int32) p3 (Int32.ofNat f) (Int32.ofNat t) p5) = (0 : Int32)
      · obtain ⟨_, _, ⟨T34, L34, k34, n34⟩, -, X34, ⟨Lc34, hQ34, l34, y34, z34⟩, st34⟩ := Jvm.LawKit.callS X33 hx (y := (⟨"com/example/unknot/unknot/sp/MinTreeFirstAtMostPinLaw", "hit", "(IIIII)Z"⟩ : MethodName)) hown (mvT hZ (hw _ (List.mem_of_getElem? (i := 33) rfl))) (mvT hZ (hw _ (List.mem_of_getElem? (i := 34) rfl))) (mvT hZ (hw _ (List.mem_of_getElem? (i := 35) rfl))) (mvT hZ (hw _ (List.mem_of_getElem? (i := 36) rfl))) (by decide) (backOf (W := 0) (rm_hit l Z a0 hw [] (3 : Int32) d (Int32.ofNat f) (Int32.ofNat t) p5 T9.heap n0 sz9) hZ (hw _ (List.mem_of_getElem? (i := 36) rfl)) (hw _ (List.mem_of_getElem? (i := 35) rfl)) (by decide) (by decide)) (g := (mkF m 212 #[.val (.int p1), .val (.int p2), .val (.int p3), .val (.long q4), .second, .val (.int p5), .val (.int p6), .val (.int (Int32.ofNat nn)), .val (.int (Int32.ofNat f)), .val (.int (Int32.ofNat t)), .val (.int d), .val (.int e_), .val (.ref o), .val (.int gt), .val (.int (-1 : Int32))] [(.int p5), (.int (Int32.ofNat t)), (.int (Int32.ofNat f)), (.int d), (.int (3 : Int32))])) rfl (by rw [hml]; rfl) (argsL := [(.int (3 : Int32)), (.int d), (.int (Int32.ofNat f)), (.int (Int32.ofNat t)), (.int p5)]) (rest := []) (lenOf own_pd5 rfl) rfl (by show 2 * 0 + _ ≤ _; exact Nat.le_of_eq rfl) (hb hby at_212) (fun _ _ => ⟨rfl, e33, (by decide : 2 + 0 ≤ _), (by decide : 18 + 0 ≤ _)⟩)
        dsimp only [Pt.U, Pt.locs, Pt.cells, Pt.slots] at X34 l34 y34 z34 st34 hQ34
        rw [l34, y34, z34] at X34
        obtain ⟨rfl, Nq34, e34⟩ := hQ34
        have N34 := Fr.app N33 Nq34
        have pC3 : ∀ tt, Steps p.tables e below (T34.setTop (mkF m 215 #[.val (.int p1), .val (.int p2), .val (.int p3), .val (.long q4), .second, .val (.int p5), .val (.int p6), .val (.int (Int32.ofNat nn)), .val (.int (Int32.ofNat f)), .val (.int (Int32.ofNat t)), .val (.int d), .val (.int e_), .val (.ref o), .val (.int gt), .val (.int (-1 : Int32))] [(.int (own_h (3 : Int32) d (Int32.ofNat f) (Int32.ofNat t) p5))])) tt → Steps p.tables e below (s₁.setTop (mkF m 0 #[.val (.int p1), .val (.int p2), .val (.int p3), .val (.long q4), .second, .val (.int p5), .val (.int p6), .unset, .unset, .unset, .unset, .unset, .unset, .unset, .unset] [])) tt := by
          intro tt kt
          show Steps p.tables e below (s₁.setTop (mkF m 0 #[.val (.int p1), .val (.int p2), .val (.int p3), .val (.long q4), .second, .val (.int p5), .val (.int p6), .unset, .unset, .unset, .unset, .unset, .unset, .unset, .unset] [])) _
          refine pC2 _ ?_
          show Steps p.tables e below (T33.setTop (mkF m 194 #[.val (.int p1), .val (.int p2), .val (.int p3), .val (.long q4), .second, .val (.int p5), .val (.int p6), .val (.int (Int32.ofNat nn)), .val (.int (Int32.ofNat f)), .val (.int (Int32.ofNat t)), .val (.int d), .val (.int e_), .val (.ref o), .val (.int gt), .val (.int (-1 : Int32))] [(.int (own_h (2 : Int32) p3 (Int32.ofNat f) (Int32.ofNat t) p5))])) _
          refine XS.ifYes X33.here hx rfl (pc0 := 194) (pc' := 203) rfl (hb hby at_194) rfl ((if0 _ _).trans (teq c2).1) (by decide) (by decide) ?_
          show Steps p.tables e below (T33.setTop (mkF m 203 #[.val (.int p1), .val (.int p2), .val (.int p3), .val (.long q4), .second, .val (.int p5), .val (.int p6), .val (.int (Int32.ofNat nn)), .val (.int (Int32.ofNat f)), .val (.int (Int32.ofNat t)), .val (.int d), .val (.int e_), .val (.ref o), .val (.int gt), .val (.int (-1 : Int32))] [])) _
          refine XS.iconst X33.here hx rfl (hb hby at_203) ?_
          show Steps p.tables e below (T33.setTop (mkF m 204 #[.val (.int p1), .val (.int p2), .val (.int p3), .val (.long q4), .second, .val (.int p5), .val (.int p6), .val (.int (Int32.ofNat nn)), .val (.int (Int32.ofNat f)), .val (.int (Int32.ofNat t)), .val (.int d), .val (.int e_), .val (.ref o), .val (.int gt), .val (.int (-1 : Int32))] [(.int (3 : Int32))])) _
          refine XS.iload X33.here hx rfl (hb hby at_204) rfl ?_
          show Steps p.tables e below (T33.setTop (mkF m 206 #[.val (.int p1), .val (.int p2), .val (.int p3), .val (.long q4), .second, .val (.int p5), .val (.int p6), .val (.int (Int32.ofNat nn)), .val (.int (Int32.ofNat f)), .val (.int (Int32.ofNat t)), .val (.int d), .val (.int e_), .val (.ref o), .val (.int gt), .val (.int (-1 : Int32))] [(.int d), (.int (3 : Int32))])) _
          refine XS.iload X33.here hx rfl (hb hby at_206) rfl ?_
          show Steps p.tables e below (T33.setTop (mkF m 208 #[.val (.int p1), .val (.int p2), .val (.int p3), .val (.long q4), .second, .val (.int p5), .val (.int p6), .val (.int (Int32.ofNat nn)), .val (.int (Int32.ofNat f)), .val (.int (Int32.ofNat t)), .val (.int d), .val (.int e_), .val (.ref o), .val (.int gt), .val (.int (-1 : Int32))] [(.int (Int32.ofNat f)), (.int d), (.int (3 : Int32))])) _
          refine XS.iload X33.here hx rfl (hb hby at_208) rfl ?_
          show Steps p.tables e below (T33.setTop (mkF m 210 #[.val (.int p1), .val (.int p2), .val (.int p3), .val (.long q4), .second, .val (.int p5), .val (.int p6), .val (.int (Int32.ofNat nn)), .val (.int (Int32.ofNat f)), .val (.int (Int32.ofNat t)), .val (.int d), .val (.int e_), .val (.ref o), .val (.int gt), .val (.int (-1 : Int32))] [(.int (Int32.ofNat t)), (.int (Int32.ofNat f)), (.int d), (.int (3 : Int32))])) _
          refine XS.iload X33.here hx rfl (hb hby at_210) rfl ?_
          show Steps p.tables e below (T33.setTop (mkF m 212 #[.val (.int p1), .val (.int p2), .val (.int p3), .val (.long q4), .second, .val (.int p5), .val (.int p6), .val (.int (Int32.ofNat nn)), .val (.int (Int32.ofNat f)), .val (.int (Int32.ofNat t)), .val (.int d), .val (.int e_), .val (.ref o), .val (.int gt), .val (.int (-1 : Int32))] [(.int p5), (.int (Int32.ofNat t)), (.int (Int32.ofNat f)), (.int d), (.int (3 : Int32))])) _
          refine st34 _ ?_
          exact kt
        by_cases c3 : (own_h (3 : Int32) d (Int32.ofNat f) (Int32.ofNat t) p5) = (0 : Int32)
        · obtain ⟨_, _, ⟨T35, L35, k35, n35⟩, -, X35, ⟨Lc35, hQ35, l35, y35, z35⟩, st35⟩ := Jvm.LawKit.callS X34 hx (y := (⟨"com/example/unknot/unknot/sp/MinTreeFirstAtMostPinLaw", "hit", "(IIIII)Z"⟩ : MethodName)) hown (mvT hZ (hw _ (List.mem_of_getElem? (i := 33) rfl))) (mvT hZ (hw _ (List.mem_of_getElem? (i := 34) rfl))) (mvT hZ (hw _ (List.mem_of_getElem? (i := 35) rfl))) (mvT hZ (hw _ (List.mem_of_getElem? (i := 36) rfl))) (by decide) (backOf (W := 0) (rm_hit l Z a0 hw [] (4 : Int32) e_ (Int32.ofNat f) (Int32.ofNat t) p5 T9.heap n0 sz9) hZ (hw _ (List.mem_of_getElem? (i := 36) rfl)) (hw _ (List.mem_of_getElem? (i := 35) rfl)) (by decide) (by decide)) (g := (mkF m 233 #[.val (.int p1), .val (.int p2), .val (.int p3), .val (.long q4), .second, .val (.int p5), .val (.int p6), .val (.int (Int32.ofNat nn)), .val (.int (Int32.ofNat f)), .val (.int (Int32.ofNat t)), .val (.int d), .val (.int e_), .val (.ref o), .val (.int gt), .val (.int (-1 : Int32))] [(.int p5), (.int (Int32.ofNat t)), (.int (Int32.ofNat f)), (.int e_), (.int (4 : Int32))])) rfl (by rw [hml]; rfl) (argsL := [(.int (4 : Int32)), (.int e_), (.int (Int32.ofNat f)), (.int (Int32.ofNat t)), (.int p5)]) (rest := []) (lenOf own_pd5 rfl) rfl (by show 2 * 0 + _ ≤ _; exact Nat.le_of_eq rfl) (hb hby at_233) (fun _ _ => ⟨rfl, e34, (by decide : 2 + 0 ≤ _), (by decide : 18 + 0 ≤ _)⟩)
          dsimp only [Pt.U, Pt.locs, Pt.cells, Pt.slots] at X35 l35 y35 z35 st35 hQ35
          rw [l35, y35, z35] at X35
          obtain ⟨rfl, Nq35, e35⟩ := hQ35
          have N35 := Fr.app N34 Nq35
          have pC4 : ∀ tt, Steps p.tables e below (T35.setTop (mkF m 236 #[.val (.int p1), .val (.int p2), .val (.int p3), .val (.long q4), .second, .val (.int p5), .val (.int p6), .val (.int (Int32.ofNat nn)), .val (.int (Int32.ofNat f)), .val (.int (Int32.ofNat t)), .val (.int d), .val (.int e_), .val (.ref o), .val (.int gt), .val (.int (-1 : Int32))] [(.int (own_h (4 : Int32) e_ (Int32.ofNat f) (Int32.ofNat t) p5))])) tt → Steps p.tables e below (s₁.setTop (mkF m 0 #[.val (.int p1), .val (.int p2), .val (.int p3), .val (.long q4), .second, .val (.int p5), .val (.int p6), .unset, .unset, .unset, .unset, .unset, .unset, .unset, .unset] [])) tt := by
            intro tt kt
            show Steps p.tables e below (s₁.setTop (mkF m 0 #[.val (.int p1), .val (.int p2), .val (.int p3), .val (.long q4), .second, .val (.int p5), .val (.int p6), .unset, .unset, .unset, .unset, .unset, .unset, .unset, .unset] [])) _
            refine pC3 _ ?_
            show Steps p.tables e below (T34.setTop (mkF m 215 #[.val (.int p1), .val (.int p2), .val (.int p3), .val (.long q4), .second, .val (.int p5), .val (.int p6), .val (.int (Int32.ofNat nn)), .val (.int (Int32.ofNat f)), .val (.int (Int32.ofNat t)), .val (.int d), .val (.int e_), .val (.ref o), .val (.int gt), .val (.int (-1 : Int32))] [(.int (own_h (3 : Int32) d (Int32.ofNat f) (Int32.ofNat t) p5))])) _
            refine XS.ifYes X34.here hx rfl (pc0 := 215) (pc' := 224) rfl (hb hby at_215) rfl ((if0 _ _).trans (teq c3).1) (by decide) (by decide) ?_
            show Steps p.tables e below (T34.setTop (mkF m 224 #[.val (.int p1), .val (.int p2), .val (.int p3), .val (.long q4), .second, .val (.int p5), .val (.int p6), .val (.int (Int32.ofNat nn)), .val (.int (Int32.ofNat f)), .val (.int (Int32.ofNat t)), .val (.int d), .val (.int e_), .val (.ref o), .val (.int gt), .val (.int (-1 : Int32))] [])) _
            refine XS.iconst X34.here hx rfl (hb hby at_224) ?_
            show Steps p.tables e below (T34.setTop (mkF m 225 #[.val (.int p1), .val (.int p2), .val (.int p3), .val (.long q4), .second, .val (.int p5), .val (.int p6), .val (.int (Int32.ofNat nn)), .val (.int (Int32.ofNat f)), .val (.int (Int32.ofNat t)), .val (.int d), .val (.int e_), .val (.ref o), .val (.int gt), .val (.int (-1 : Int32))] [(.int (4 : Int32))])) _
            refine XS.iload X34.here hx rfl (hb hby at_225) rfl ?_
            show Steps p.tables e below (T34.setTop (mkF m 227 #[.val (.int p1), .val (.int p2), .val (.int p3), .val (.long q4), .second, .val (.int p5), .val (.int p6), .val (.int (Int32.ofNat nn)), .val (.int (Int32.ofNat f)), .val (.int (Int32.ofNat t)), .val (.int d), .val (.int e_), .val (.ref o), .val (.int gt), .val (.int (-1 : Int32))] [(.int e_), (.int (4 : Int32))])) _
            refine XS.iload X34.here hx rfl (hb hby at_227) rfl ?_
            show Steps p.tables e below (T34.setTop (mkF m 229 #[.val (.int p1), .val (.int p2), .val (.int p3), .val (.long q4), .second, .val (.int p5), .val (.int p6), .val (.int (Int32.ofNat nn)), .val (.int (Int32.ofNat f)), .val (.int (Int32.ofNat t)), .val (.int d), .val (.int e_), .val (.ref o), .val (.int gt), .val (.int (-1 : Int32))] [(.int (Int32.ofNat f)), (.int e_), (.int (4 : Int32))])) _
            refine XS.iload X34.here hx rfl (hb hby at_229) rfl ?_
            show Steps p.tables e below (T34.setTop (mkF m 231 #[.val (.int p1), .val (.int p2), .val (.int p3), .val (.long q4), .second, .val (.int p5), .val (.int p6), .val (.int (Int32.ofNat nn)), .val (.int (Int32.ofNat f)), .val (.int (Int32.ofNat t)), .val (.int d), .val (.int e_), .val (.ref o), .val (.int gt), .val (.int (-1 : Int32))] [(.int (Int32.ofNat t)), (.int (Int32.ofNat f)), (.int e_), (.int (4 : Int32))])) _
            refine XS.iload X34.here hx rfl (hb hby at_231) rfl ?_
            show Steps p.tables e below (T34.setTop (mkF m 233 #[.val (.int p1), .val (.int p2), .val (.int p3), .val (.long q4), .second, .val (.int p5), .val (.int p6), .val (.int (Int32.ofNat nn)), .val (.int (Int32.ofNat f)), .val (.int (Int32.ofNat t)), .val (.int d), .val (.int e_), .val (.ref o), .val (.int gt), .val (.int (-1 : Int32))] [(.int p5), (.int (Int32.ofNat t)), (.int (Int32.ofNat f)), (.int e_), (.int (4 : Int32))])) _
            refine st35 _ ?_
            exact kt
          by_cases c4 : (own_h (4 : Int32) e_ (Int32.ofNat f) (Int32.ofNat t) p5) = (0 : Int32)
          · obtain ⟨fs, hr, hrun, hended, hW, hsame⟩ := X35.leave (v := some (.int (1 : Int32))) (fun h => by rw [Bd.returns] at h; cases h)
            refine ⟨_, _, pre0 _ ?_, hrun, hended, _, _, rfl, ?_, ⟨_, rfl⟩, hW, hsame.mono (by decide) (by decide)⟩
            · show Steps p.tables e below (s₁.setTop (mkF m 0 #[.val (.int p1), .val (.int p2), .val (.int p3), .val (.long q4), .second, .val (.int p5), .val (.int p6), .unset, .unset, .unset, .unset, .unset, .unset, .unset, .unset] [])) _
              refine pC4 _ ?_
              show Steps p.tables e below (T35.setTop (mkF m 236 #[.val (.int p1), .val (.int p2), .val (.int p3), .val (.long q4), .second, .val (.int p5), .val (.int p6), .val (.int (Int32.ofNat nn)), .val (.int (Int32.ofNat f)), .val (.int (Int32.ofNat t)), .val (.int d), .val (.int e_), .val (.ref o), .val (.int gt), .val (.int (-1 : Int32))] [(.int (own_h (4 : Int32) e_ (Int32.ofNat f) (Int32.ofNat t) p5))])) _
              refine XS.ifYes X35.here hx rfl (pc0 := 236) (pc' := 242) rfl (hb hby at_236) rfl ((if0 _ _).trans (teq c4).1) (by decide) (by decide) ?_
              show Steps p.tables e below (T35.setTop (mkF m 242 #[.val (.int p1), .val (.int p2), .val (.int p3), .val (.long q4), .second, .val (.int p5), .val (.int p6), .val (.int (Int32.ofNat nn)), .val (.int (Int32.ofNat f)), .val (.int (Int32.ofNat t)), .val (.int d), .val (.int e_), .val (.ref o), .val (.int gt), .val (.int (-1 : Int32))] [])) _
              refine XS.iload X35.here hx rfl (hb hby at_242) rfl ?_
              show Steps p.tables e below (T35.setTop (mkF m 244 #[.val (.int p1), .val (.int p2), .val (.int p3), .val (.long q4), .second, .val (.int p5), .val (.int p6), .val (.int (Int32.ofNat nn)), .val (.int (Int32.ofNat f)), .val (.int (Int32.ofNat t)), .val (.int d), .val (.int e_), .val (.ref o), .val (.int gt), .val (.int (-1 : Int32))] [(.int gt)])) _
              refine XS.iload X35.here hx rfl (hb hby at_244) rfl ?_
              show Steps p.tables e below (T35.setTop (mkF m 246 #[.val (.int p1), .val (.int p2), .val (.int p3), .val (.long q4), .second, .val (.int p5), .val (.int p6), .val (.int (Int32.ofNat nn)), .val (.int (Int32.ofNat f)), .val (.int (Int32.ofNat t)), .val (.int d), .val (.int e_), .val (.ref o), .val (.int gt), .val (.int (-1 : Int32))] [(.int (-1 : Int32)), (.int gt)])) _
              refine XS.icmpNo X35.here hx rfl (hb hby at_246) rfl (teq (hgt.trans (by unfold own_want; rw [if_pos c0, if_pos c1, if_pos c2, if_pos c3, if_pos c4]))).2 ?_
              show Steps p.tables e below (T35.setTop (mkF m 249 #[.val (.int p1), .val (.int p2), .val (.int p3), .val (.long q4), .second, .val (.int p5), .val (.int p6), .val (.int (Int32.ofNat nn)), .val (.int (Int32.ofNat f)), .val (.int (Int32.ofNat t)), .val (.int d), .val (.int e_), .val (.ref o), .val (.int gt), .val (.int (-1 : Int32))] [])) _
              refine XS.iconst X35.here hx rfl (hb hby at_249) ?_
              show Steps p.tables e below (T35.setTop (mkF m 250 #[.val (.int p1), .val (.int p2), .val (.int p3), .val (.long q4), .second, .val (.int p5), .val (.int p6), .val (.int (Int32.ofNat nn)), .val (.int (Int32.ofNat f)), .val (.int (Int32.ofNat t)), .val (.int d), .val (.int e_), .val (.ref o), .val (.int gt), .val (.int (-1 : Int32))] [(.int (1 : Int32))])) _
              refine XS.goto X35.here hx rfl (pc0 := 250) (pc' := 254) rfl (hb hby at_250) (by decide) (by decide) ?_
              show Steps p.tables e below (T35.setTop (mkF m 254 #[.val (.int p1), .val (.int p2), .val (.int p3), .val (.long q4), .second, .val (.int p5), .val (.int p6), .val (.int (Int32.ofNat nn)), .val (.int (Int32.ofNat f)), .val (.int (Int32.ofNat t)), .val (.int d), .val (.int e_), .val (.ref o), .val (.int gt), .val (.int (-1 : Int32))] [(.int (1 : Int32))])) _
              exact retN X35 hx (t := .boolean) Bd.returns (by simp) (hb hby at_254) hr
            · show Q_law Z p1 p2 p3 q4 p5 p6 h0 n0 _ T35.heap _
              rw [e35]
              exact ⟨rfl, N35⟩
          · obtain ⟨fs, hr, hrun, hended, hW, hsame⟩ := X35.leave (v := some (.int (1 : Int32))) (fun h => by rw [Bd.returns] at h; cases h)
            refine ⟨_, _, pre0 _ ?_, hrun, hended, _, _, rfl, ?_, ⟨_, rfl⟩, hW, hsame.mono (by decide) (by decide)⟩
            · show Steps p.tables e below (s₁.setTop (mkF m 0 #[.val (.int p1), .val (.int p2), .val (.int p3), .val (.long q4), .second, .val (.int p5), .val (.int p6), .unset, .unset, .unset, .unset, .unset, .unset, .unset, .unset] [])) _
              refine pC4 _ ?_
              show Steps p.tables e below (T35.setTop (mkF m 236 #[.val (.int p1), .val (.int p2), .val (.int p3), .val (.long q4), .second, .val (.int p5), .val (.int p6), .val (.int (Int32.ofNat nn)), .val (.int (Int32.ofNat f)), .val (.int (Int32.ofNat t)), .val (.int d), .val (.int e_), .val (.ref o), .val (.int gt), .val (.int (-1 : Int32))] [(.int (own_h (4 : Int32) e_ (Int32.ofNat f) (Int32.ofNat t) p5))])) _
              refine XS.ifNo X35.here hx rfl (hb hby at_236) rfl ((if0 _ _).trans (feq c4).1) ?_
              show Steps p.tables e below (T35.setTop (mkF m 239 #[.val (.int p1), .val (.int p2), .val (.int p3), .val (.long q4), .second, .val (.int p5), .val (.int p6), .val (.int (Int32.ofNat nn)), .val (.int (Int32.ofNat f)), .val (.int (Int32.ofNat t)), .val (.int d), .val (.int e_), .val (.ref o), .val (.int gt), .val (.int (-1 : Int32))] [])) _
              refine XS.iconst X35.here hx rfl (hb hby at_239) ?_
              show Steps p.tables e below (T35.setTop (mkF m 240 #[.val (.int p1), .val (.int p2), .val (.int p3), .val (.long q4), .second, .val (.int p5), .val (.int p6), .val (.int (Int32.ofNat nn)), .val (.int (Int32.ofNat f)), .val (.int (Int32.ofNat t)), .val (.int d), .val (.int e_), .val (.ref o), .val (.int gt), .val (.int (-1 : Int32))] [(.int (4 : Int32))])) _
              refine XS.istore X35.here hx rfl (hb hby at_240) rfl (l' := #[.val (.int p1), .val (.int p2), .val (.int p3), .val (.long q4), .second, .val (.int p5), .val (.int p6), .val (.int (Int32.ofNat nn)), .val (.int (Int32.ofNat f)), .val (.int (Int32.ofNat t)), .val (.int d), .val (.int e_), .val (.ref o), .val (.int gt), .val (.int (4 : Int32))]) rfl ?_
              show Steps p.tables e below (T35.setTop (mkF m 242 #[.val (.int p1), .val (.int p2), .val (.int p3), .val (.long q4), .second, .val (.int p5), .val (.int p6), .val (.int (Int32.ofNat nn)), .val (.int (Int32.ofNat f)), .val (.int (Int32.ofNat t)), .val (.int d), .val (.int e_), .val (.ref o), .val (.int gt), .val (.int (4 : Int32))] [])) _
              refine XS.iload X35.here hx rfl (hb hby at_242) rfl ?_
              show Steps p.tables e below (T35.setTop (mkF m 244 #[.val (.int p1), .val (.int p2), .val (.int p3), .val (.long q4), .second, .val (.int p5), .val (.int p6), .val (.int (Int32.ofNat nn)), .val (.int (Int32.ofNat f)), .val (.int (Int32.ofNat t)), .val (.int d), .val (.int e_), .val (.ref o), .val (.int gt), .val (.int (4 : Int32))] [(.int gt)])) _
              refine XS.iload X35.here hx rfl (hb hby at_244) rfl ?_
              show Steps p.tables e below (T35.setTop (mkF m 246 #[.val (.int p1), .val (.int p2), .val (.int p3), .val (.long q4), .second, .val (.int p5), .val (.int p6), .val (.int (Int32.ofNat nn)), .val (.int (Int32.ofNat f)), .val (.int (Int32.ofNat t)), .val (.int d), .val (.int e_), .val (.ref o), .val (.int gt), .val (.int (4 : Int32))] [(.int (4 : Int32)), (.int gt)])) _
              refine XS.icmpNo X35.here hx rfl (hb hby at_246) rfl (teq (hgt.trans (by unfold own_want; rw [if_pos c0, if_pos c1, if_pos c2, if_pos c3, if_neg c4]))).2 ?_
              show Steps p.tables e below (T35.setTop (mkF m 249 #[.val (.int p1), .val (.int p2), .val (.int p3), .val (.long q4), .second, .val (.int p5), .val (.int p6), .val (.int (Int32.ofNat nn)), .val (.int (Int32.ofNat f)), .val (.int (Int32.ofNat t)), .val (.int d), .val (.int e_), .val (.ref o), .val (.int gt), .val (.int (4 : Int32))] [])) _
              refine XS.iconst X35.here hx rfl (hb hby at_249) ?_
              show Steps p.tables e below (T35.setTop (mkF m 250 #[.val (.int p1), .val (.int p2), .val (.int p3), .val (.long q4), .second, .val (.int p5), .val (.int p6), .val (.int (Int32.ofNat nn)), .val (.int (Int32.ofNat f)), .val (.int (Int32.ofNat t)), .val (.int d), .val (.int e_), .val (.ref o), .val (.int gt), .val (.int (4 : Int32))] [(.int (1 : Int32))])) _
              refine XS.goto X35.here hx rfl (pc0 := 250) (pc' := 254) rfl (hb hby at_250) (by decide) (by decide) ?_
              show Steps p.tables e below (T35.setTop (mkF m 254 #[.val (.int p1), .val (.int p2), .val (.int p3), .val (.long q4), .second, .val (.int p5), .val (.int p6), .val (.int (Int32.ofNat nn)), .val (.int (Int32.ofNat f)), .val (.int (Int32.ofNat t)), .val (.int d), .val (.int e_), .val (.ref o), .val (.int gt), .val (.int (4 : Int32))] [(.int (1 : Int32))])) _
              exact retN X35 hx (t := .boolean) Bd.returns (by simp) (hb hby at_254) hr
            · show Q_law Z p1 p2 p3 q4 p5 p6 h0 n0 _ T35.heap _
              rw [e35]
              exact ⟨rfl, N35⟩
        · obtain ⟨fs, hr, hrun, hended, hW, hsame⟩ := X34.leave (v := some (.int (1 : Int32))) (fun h => by rw [Bd.returns] at h; cases h)
          refine ⟨_, _, pre0 _ ?_, hrun, hended, _, _, rfl, ?_, ⟨_, rfl⟩, hW, hsame.mono (by decide) (by decide)⟩
          · show Steps p.tables e below (s₁.setTop (mkF m 0 #[.val (.int p1), .val (.int p2), .val (.int p3), .val (.long q4), .second, .val (.int p5), .val (.int p6), .unset, .unset, .unset, .unset, .unset, .unset, .unset, .unset] [])) _
            refine pC3 _ ?_
            show Steps p.tables e below (T34.setTop (mkF m 215 #[.val (.int p1), .val (.int p2), .val (.int p3), .val (.long q4), .second, .val (.int p5), .val (.int p6), .val (.int (Int32.ofNat nn)), .val (.int (Int32.ofNat f)), .val (.int (Int32.ofNat t)), .val (.int d), .val (.int e_), .val (.ref o), .val (.int gt), .val (.int (-1 : Int32))] [(.int (own_h (3 : Int32) d (Int32.ofNat f) (Int32.ofNat t) p5))])) _
            refine XS.ifNo X34.here hx rfl (hb hby at_215) rfl ((if0 _ _).trans (feq c3).1) ?_
            show Steps p.tables e below (T34.setTop (mkF m 218 #[.val (.int p1), .val (.int p2), .val (.int p3), .val (.long q4), .second, .val (.int p5), .val (.int p6), .val (.int (Int32.ofNat nn)), .val (.int (Int32.ofNat f)), .val (.int (Int32.ofNat t)), .val (.int d), .val (.int e_), .val (.ref o), .val (.int gt), .val (.int (-1 : Int32))] [])) _
            refine XS.iconst X34.here hx rfl (hb hby at_218) ?_
            show Steps p.tables e below (T34.setTop (mkF m 219 #[.val (.int p1), .val (.int p2), .val (.int p3), .val (.long q4), .second, .val (.int p5), .val (.int p6), .val (.int (Int32.ofNat nn)), .val (.int (Int32.ofNat f)), .val (.int (Int32.ofNat t)), .val (.int d), .val (.int e_), .val (.ref o), .val (.int gt), .val (.int (-1 : Int32))] [(.int (3 : Int32))])) _
            refine XS.istore X34.here hx rfl (hb hby at_219) rfl (l' := #[.val (.int p1), .val (.int p2), .val (.int p3), .val (.long q4), .second, .val (.int p5), .val (.int p6), .val (.int (Int32.ofNat nn)), .val (.int (Int32.ofNat f)), .val (.int (Int32.ofNat t)), .val (.int d), .val (.int e_), .val (.ref o), .val (.int gt), .val (.int (3 : Int32))]) rfl ?_
            show Steps p.tables e below (T34.setTop (mkF m 221 #[.val (.int p1), .val (.int p2), .val (.int p3), .val (.long q4), .second, .val (.int p5), .val (.int p6), .val (.int (Int32.ofNat nn)), .val (.int (Int32.ofNat f)), .val (.int (Int32.ofNat t)), .val (.int d), .val (.int e_), .val (.ref o), .val (.int gt), .val (.int (3 : Int32))] [])) _
            refine XS.goto X34.here hx rfl (pc0 := 221) (pc' := 242) rfl (hb hby at_221) (by decide) (by decide) ?_
            show Steps p.tables e below (T34.setTop (mkF m 242 #[.val (.int p1), .val (.int p2), .val (.int p3), .val (.long q4), .second, .val (.int p5), .val (.int p6), .val (.int (Int32.ofNat nn)), .val (.int (Int32.ofNat f)), .val (.int (Int32.ofNat t)), .val (.int d), .val (.int e_), .val (.ref o), .val (.int gt), .val (.int (3 : Int32))] [])) _
            refine XS.iload X34.here hx rfl (hb hby at_242) rfl ?_
            show Steps p.tables e below (T34.setTop (mkF m 244 #[.val (.int p1), .val (.int p2), .val (.int p3), .val (.long q4), .second, .val (.int p5), .val (.int p6), .val (.int (Int32.ofNat nn)), .val (.int (Int32.ofNat f)), .val (.int (Int32.ofNat t)), .val (.int d), .val (.int e_), .val (.ref o), .val (.int gt), .val (.int (3 : Int32))] [(.int gt)])) _
            refine XS.iload X34.here hx rfl (hb hby at_244) rfl ?_
            show Steps p.tables e below (T34.setTop (mkF m 246 #[.val (.int p1), .val (.int p2), .val (.int p3), .val (.long q4), .second, .val (.int p5), .val (.int p6), .val (.int (Int32.ofNat nn)), .val (.int (Int32.ofNat f)), .val (.int (Int32.ofNat t)), .val (.int d), .val (.int e_), .val (.ref o), .val (.int gt), .val (.int (3 : Int32))] [(.int (3 : Int32)), (.int gt)])) _
            refine XS.icmpNo X34.here hx rfl (hb hby at_246) rfl (teq (hgt.trans (by unfold own_want; rw [if_pos c0, if_pos c1, if_pos c2, if_neg c3]))).2 ?_
            show Steps p.tables e below (T34.setTop (mkF m 249 #[.val (.int p1), .val (.int p2), .val (.int p3), .val (.long q4), .second, .val (.int p5), .val (.int p6), .val (.int (Int32.ofNat nn)), .val (.int (Int32.ofNat f)), .val (.int (Int32.ofNat t)), .val (.int d), .val (.int e_), .val (.ref o), .val (.int gt), .val (.int (3 : Int32))] [])) _
            refine XS.iconst X34.here hx rfl (hb hby at_249) ?_
            show Steps p.tables e below (T34.setTop (mkF m 250 #[.val (.int p1), .val (.int p2), .val (.int p3), .val (.long q4), .second, .val (.int p5), .val (.int p6), .val (.int (Int32.ofNat nn)), .val (.int (Int32.ofNat f)), .val (.int (Int32.ofNat t)), .val (.int d), .val (.int e_), .val (.ref o), .val (.int gt), .val (.int (3 : Int32))] [(.int (1 : Int32))])) _
            refine XS.goto X34.here hx rfl (pc0 := 250) (pc' := 254) rfl (hb hby at_250) (by decide) (by decide) ?_
            show Steps p.tables e below (T34.setTop (mkF m 254 #[.val (.int p1), .val (.int p2), .val (.int p3), .val (.long q4), .second, .val (.int p5), .val (.int p6), .val (.int (Int32.ofNat nn)), .val (.int (Int32.ofNat f)), .val (.int (Int32.ofNat t)), .val (.int d), .val (.int e_), .val (.ref o), .val (.int gt), .val (.int (3 : Int32))] [(.int (1 : Int32))])) _
            exact retN X34 hx (t := .boolean) Bd.returns (by simp) (hb hby at_254) hr
          · show Q_law Z p1 p2 p3 q4 p5 p6 h0 n0 _ T34.heap _
            rw [e34]
            exact ⟨rfl, N34⟩
      · obtain ⟨fs, hr, hrun, hended, hW, hsame⟩ := X33.leave (v := some (.int (1 : Int32))) (fun h => by rw [Bd.returns] at h; cases h)
        refine ⟨_, _, pre0 _ ?_, hrun, hended, _, _, rfl, ?_, ⟨_, rfl⟩, hW, hsame.mono (by decide) (by decide)⟩
        · show Steps p.tables e below (s₁.setTop (mkF m 0 #[.val (.int p1), .val (.int p2), .val (.int p3), .val (.long q4), .second, .val (.int p5), .val (.int p6), .unset, .unset, .unset, .unset, .unset, .unset, .unset, .unset] [])) _
          refine pC2 _ ?_
          show Steps p.tables e below (T33.setTop (mkF m 194 #[.val (.int p1), .val (.int p2), .val (.int p3), .val (.long q4), .second, .val (.int p5), .val (.int p6), .val (.int (Int32.ofNat nn)), .val (.int (Int32.ofNat f)), .val (.int (Int32.ofNat t)), .val (.int d), .val (.int e_), .val (.ref o), .val (.int gt), .val (.int (-1 : Int32))] [(.int (own_h (2 : Int32) p3 (Int32.ofNat f) (Int32.ofNat t) p5))])) _
          refine XS.ifNo X33.here hx rfl (hb hby at_194) rfl ((if0 _ _).trans (feq c2).1) ?_
          show Steps p.tables e below (T33.setTop (mkF m 197 #[.val (.int p1), .val (.int p2), .val (.int p3), .val (.long q4), .second, .val (.int p5), .val (.int p6), .val (.int (Int32.ofNat nn)), .val (.int (Int32.ofNat f)), .val (.int (Int32.ofNat t)), .val (.int d), .val (.int e_), .val (.ref o), .val (.int gt), .val (.int (-1 : Int32))] [])) _
          refine XS.iconst X33.here hx rfl (hb hby at_197) ?_
          show Steps p.tables e below (T33.setTop (mkF m 198 #[.val (.int p1), .val (.int p2), .val (.int p3), .val (.long q4), .second, .val (.int p5), .val (.int p6), .val (.int (Int32.ofNat nn)), .val (.int (Int32.ofNat f)), .val (.int (Int32.ofNat t)), .val (.int d), .val (.int e_), .val (.ref o), .val (.int gt), .val (.int (-1 : Int32))] [(.int (2 : Int32))])) _
          refine XS.istore X33.here hx rfl (hb hby at_198) rfl (l' := #[.val (.int p1), .val (.int p2), .val (.int p3), .val (.long q4), .second, .val (.int p5), .val (.int p6), .val (.int (Int32.ofNat nn)), .val (.int (Int32.ofNat f)), .val (.int (Int32.ofNat t)), .val (.int d), .val (.int e_), .val (.ref o), .val (.int gt), .val (.int (2 : Int32))]) rfl ?_
          show Steps p.tables e below (T33.setTop (mkF m 200 #[.val (.int p1), .val (.int p2), .val (.int p3), .val (.long q4), .second, .val (.int p5), .val (.int p6), .val (.int (Int32.ofNat nn)), .val (.int (Int32.ofNat f)), .val (.int (Int32.ofNat t)), .val (.int d), .val (.int e_), .val (.ref o), .val (.int gt), .val (.int (2 : Int32))] [])) _
          refine XS.goto X33.here hx rfl (pc0 := 200) (pc' := 242) rfl (hb hby at_200) (by decide) (by decide) ?_
          show Steps p.tables e below (T33.setTop (mkF m 242 #[.val (.int p1), .val (.int p2), .val (.int p3), .val (.long q4), .second, .val (.int p5), .val (.int p6), .val (.int (Int32.ofNat nn)), .val (.int (Int32.ofNat f)), .val (.int (Int32.ofNat t)), .val (.int d), .val (.int e_), .val (.ref o), .val (.int gt), .val (.int (2 : Int32))] [])) _
          refine XS.iload X33.here hx rfl (hb hby at_242) rfl ?_
          show Steps p.tables e below (T33.setTop (mkF m 244 #[.val (.int p1), .val (.int p2), .val (.int p3), .val (.long q4), .second, .val (.int p5), .val (.int p6), .val (.int (Int32.ofNat nn)), .val (.int (Int32.ofNat f)), .val (.int (Int32.ofNat t)), .val (.int d), .val (.int e_), .val (.ref o), .val (.int gt), .val (.int (2 : Int32))] [(.int gt)])) _
          refine XS.iload X33.here hx rfl (hb hby at_244) rfl ?_
          show Steps p.tables e below (T33.setTop (mkF m 246 #[.val (.int p1), .val (.int p2), .val (.int p3), .val (.long q4), .second, .val (.int p5), .val (.int p6), .val (.int (Int32.ofNat nn)), .val (.int (Int32.ofNat f)), .val (.int (Int32.ofNat t)), .val (.int d), .val (.int e_), .val (.ref o), .val (.int gt), .val (.int (2 : Int32))] [(.int (2 : Int32)), (.int gt)])) _
          refine XS.icmpNo X33.here hx rfl (hb hby at_246) rfl (teq (hgt.trans (by unfold own_want; rw [if_pos c0, if_pos c1, if_neg c2]))).2 ?_
          show Steps p.tables e below (T33.setTop (mkF m 249 #[.val (.int p1), .val (.int p2), .val (.int p3), .val (.long q4), .second, .val (.int p5), .val (.int p6), .val (.int (Int32.ofNat nn)), .val (.int (Int32.ofNat f)), .val (.int (Int32.ofNat t)), .val (.int d), .val (.int e_), .val (.ref o), .val (.int gt), .val (.int (2 : Int32))] [])) _
          refine XS.iconst X33.here hx rfl (hb hby at_249) ?_
          show Steps p.tables e below (T33.setTop (mkF m 250 #[.val (.int p1), .val (.int p2), .val (.int p3), .val (.long q4), .second, .val (.int p5), .val (.int p6), .val (.int (Int32.ofNat nn)), .val (.int (Int32.ofNat f)), .val (.int (Int32.ofNat t)), .val (.int d), .val (.int e_), .val (.ref o), .val (.int gt), .val (.int (2 : Int32))] [(.int (1 : Int32))])) _
          refine XS.goto X33.here hx rfl (pc0 := 250) (pc' := 254) rfl (hb hby at_250) (by decide) (by decide) ?_
          show Steps p.tables e below (T33.setTop (mkF m 254 #[.val (.int p1), .val (.int p2), .val (.int p3), .val (.long q4), .second, .val (.int p5), .val (.int p6), .val (.int (Int32.ofNat nn)), .val (.int (Int32.ofNat f)), .val (.int (Int32.ofNat t)), .val (.int d), .val (.int e_), .val (.ref o), .val (.int gt), .val (.int (2 : Int32))] [(.int (1 : Int32))])) _
          exact retN X33 hx (t := .boolean) Bd.returns (by simp) (hb hby at_254) hr
        · show Q_law Z p1 p2 p3 q4 p5 p6 h0 n0 _ T33.heap _
          rw [e33]
          exact ⟨rfl, N33⟩
    · obtain ⟨fs, hr, hrun, hended, hW, hsame⟩ := X32.leave (v := some (.int (1 : Int32))) (fun h => by rw [Bd.returns] at h; cases h)
      refine ⟨_, _, pre0 _ ?_, hrun, hended, _, _, rfl, ?_, ⟨_, rfl⟩, hW, hsame.mono (by decide) (by decide)⟩
      · show Steps p.tables e below (s₁.setTop (mkF m 0 #[.val (.int p1), .val (.int p2), .val (.int p3), .val (.long q4), .second, .val (.int p5), .val (.int p6), .unset, .unset, .unset, .unset, .unset, .unset, .unset, .unset] [])) _
        refine pC1 _ ?_
        show Steps p.tables e below (T32.setTop (mkF m 174 #[.val (.int p1), .val (.int p2), .val (.int p3), .val (.long q4), .second, .val (.int p5), .val (.int p6), .val (.int (Int32.ofNat nn)), .val (.int (Int32.ofNat f)), .val (.int (Int32.ofNat t)), .val (.int d), .val (.int e_), .val (.ref o), .val (.int gt), .val (.int (-1 : Int32))] [(.int (own_h (1 : Int32) p2 (Int32.ofNat f) (Int32.ofNat t) p5))])) _
        refine XS.ifNo X32.here hx rfl (hb hby at_174) rfl ((if0 _ _).trans (feq c1).1) ?_
        show Steps p.tables e below (T32.setTop (mkF m 177 #[.val (.int p1), .val (.int p2), .val (.int p3), .val (.long q4), .second, .val (.int p5), .val (.int p6), .val (.int (Int32.ofNat nn)), .val (.int (Int32.ofNat f)), .val (.int (Int32.ofNat t)), .val (.int d), .val (.int e_), .val (.ref o), .val (.int gt), .val (.int (-1 : Int32))] [])) _
        refine XS.iconst X32.here hx rfl (hb hby at_177) ?_
        show Steps p.tables e below (T32.setTop (mkF m 178 #[.val (.int p1), .val (.int p2), .val (.int p3), .val (.long q4), .second, .val (.int p5), .val (.int p6), .val (.int (Int32.ofNat nn)), .val (.int (Int32.ofNat f)), .val (.int (Int32.ofNat t)), .val (.int d), .val (.int e_), .val (.ref o), .val (.int gt), .val (.int (-1 : Int32))] [(.int (1 : Int32))])) _
        refine XS.istore X32.here hx rfl (hb hby at_178) rfl (l' := #[.val (.int p1), .val (.int p2), .val (.int p3), .val (.long q4), .second, .val (.int p5), .val (.int p6), .val (.int (Int32.ofNat nn)), .val (.int (Int32.ofNat f)), .val (.int (Int32.ofNat t)), .val (.int d), .val (.int e_), .val (.ref o), .val (.int gt), .val (.int (1 : Int32))]) rfl ?_
        show Steps p.tables e below (T32.setTop (mkF m 180 #[.val (.int p1), .val (.int p2), .val (.int p3), .val (.long q4), .second, .val (.int p5), .val (.int p6), .val (.int (Int32.ofNat nn)), .val (.int (Int32.ofNat f)), .val (.int (Int32.ofNat t)), .val (.int d), .val (.int e_), .val (.ref o), .val (.int gt), .val (.int (1 : Int32))] [])) _
        refine XS.goto X32.here hx rfl (pc0 := 180) (pc' := 242) rfl (hb hby at_180) (by decide) (by decide) ?_
        show Steps p.tables e below (T32.setTop (mkF m 242 #[.val (.int p1), .val (.int p2), .val (.int p3), .val (.long q4), .second, .val (.int p5), .val (.int p6), .val (.int (Int32.ofNat nn)), .val (.int (Int32.ofNat f)), .val (.int (Int32.ofNat t)), .val (.int d), .val (.int e_), .val (.ref o), .val (.int gt), .val (.int (1 : Int32))] [])) _
        refine XS.iload X32.here hx rfl (hb hby at_242) rfl ?_
        show Steps p.tables e below (T32.setTop (mkF m 244 #[.val (.int p1), .val (.int p2), .val (.int p3), .val (.long q4), .second, .val (.int p5), .val (.int p6), .val (.int (Int32.ofNat nn)), .val (.int (Int32.ofNat f)), .val (.int (Int32.ofNat t)), .val (.int d), .val (.int e_), .val (.ref o), .val (.int gt), .val (.int (1 : Int32))] [(.int gt)])) _
        refine XS.iload X32.here hx rfl (hb hby at_244) rfl ?_
        show Steps p.tables e below (T32.setTop (mkF m 246 #[.val (.int p1), .val (.int p2), .val (.int p3), .val (.long q4), .second, .val (.int p5), .val (.int p6), .val (.int (Int32.ofNat nn)), .val (.int (Int32.ofNat f)), .val (.int (Int32.ofNat t)), .val (.int d), .val (.int e_), .val (.ref o), .val (.int gt), .val (.int (1 : Int32))] [(.int (1 : Int32)), (.int gt)])) _
        refine XS.icmpNo X32.here hx rfl (hb hby at_246) rfl (teq (hgt.trans (by unfold own_want; rw [if_pos c0, if_neg c1]))).2 ?_
        show Steps p.tables e below (T32.setTop (mkF m 249 #[.val (.int p1), .val (.int p2), .val (.int p3), .val (.long q4), .second, .val (.int p5), .val (.int p6), .val (.int (Int32.ofNat nn)), .val (.int (Int32.ofNat f)), .val (.int (Int32.ofNat t)), .val (.int d), .val (.int e_), .val (.ref o), .val (.int gt), .val (.int (1 : Int32))] [])) _
        refine XS.iconst X32.here hx rfl (hb hby at_249) ?_
        show Steps p.tables e below (T32.setTop (mkF m 250 #[.val (.int p1), .val (.int p2), .val (.int p3), .val (.long q4), .second, .val (.int p5), .val (.int p6), .val (.int (Int32.ofNat nn)), .val (.int (Int32.ofNat f)), .val (.int (Int32.ofNat t)), .val (.int d), .val (.int e_), .val (.ref o), .val (.int gt), .val (.int (1 : Int32))] [(.int (1 : Int32))])) _
        refine XS.goto X32.here hx rfl (pc0 := 250) (pc' := 254) rfl (hb hby at_250) (by decide) (by decide) ?_
        show Steps p.tables e below (T32.setTop (mkF m 254 #[.val (.int p1), .val (.int p2), .val (.int p3), .val (.long q4), .second, .val (.int p5), .val (.int p6), .val (.int (Int32.ofNat nn)), .val (.int (Int32.ofNat f)), .val (.int (Int32.ofNat t)), .val (.int d), .val (.int e_), .val (.ref o), .val (.int gt), .val (.int (1 : Int32))] [(.int (1 : Int32))])) _
        exact retN X32 hx (t := .boolean) Bd.returns (by simp) (hb hby at_254) hr
      · show Q_law Z p1 p2 p3 q4 p5 p6 h0 n0 _ T32.heap _
        rw [e32]
        exact ⟨rfl, N32⟩
  · obtain ⟨fs, hr, hrun, hended, hW, hsame⟩ := X31.leave (v := some (.int (1 : Int32))) (fun h => by rw [Bd.returns] at h; cases h)
    refine ⟨_, _, pre0 _ ?_, hrun, hended, _, _, rfl, ?_, ⟨_, rfl⟩, hW, hsame.mono (by decide) (by decide)⟩
    · show Steps p.tables e below (s₁.setTop (mkF m 0 #[.val (.int p1), .val (.int p2), .val (.int p3), .val (.long q4), .second, .val (.int p5), .val (.int p6), .unset, .unset, .unset, .unset, .unset, .unset, .unset, .unset] [])) _
      refine pC0 _ ?_
      show Steps p.tables e below (T31.setTop (mkF m 154 #[.val (.int p1), .val (.int p2), .val (.int p3), .val (.long q4), .second, .val (.int p5), .val (.int p6), .val (.int (Int32.ofNat nn)), .val (.int (Int32.ofNat f)), .val (.int (Int32.ofNat t)), .val (.int d), .val (.int e_), .val (.ref o), .val (.int gt), .val (.int (-1 : Int32))] [(.int (own_h (0 : Int32) p1 (Int32.ofNat f) (Int32.ofNat t) p5))])) _
      refine XS.ifNo X31.here hx rfl (hb hby at_154) rfl ((if0 _ _).trans (feq c0).1) ?_
      show Steps p.tables e below (T31.setTop (mkF m 157 #[.val (.int p1), .val (.int p2), .val (.int p3), .val (.long q4), .second, .val (.int p5), .val (.int p6), .val (.int (Int32.ofNat nn)), .val (.int (Int32.ofNat f)), .val (.int (Int32.ofNat t)), .val (.int d), .val (.int e_), .val (.ref o), .val (.int gt), .val (.int (-1 : Int32))] [])) _
      refine XS.iconst X31.here hx rfl (hb hby at_157) ?_
      show Steps p.tables e below (T31.setTop (mkF m 158 #[.val (.int p1), .val (.int p2), .val (.int p3), .val (.long q4), .second, .val (.int p5), .val (.int p6), .val (.int (Int32.ofNat nn)), .val (.int (Int32.ofNat f)), .val (.int (Int32.ofNat t)), .val (.int d), .val (.int e_), .val (.ref o), .val (.int gt), .val (.int (-1 : Int32))] [(.int (0 : Int32))])) _
      refine XS.istore X31.here hx rfl (hb hby at_158) rfl (l' := #[.val (.int p1), .val (.int p2), .val (.int p3), .val (.long q4), .second, .val (.int p5), .val (.int p6), .val (.int (Int32.ofNat nn)), .val (.int (Int32.ofNat f)), .val (.int (Int32.ofNat t)), .val (.int d), .val (.int e_), .val (.ref o), .val (.int gt), .val (.int (0 : Int32))]) rfl ?_
      show Steps p.tables e below (T31.setTop (mkF m 160 #[.val (.int p1), .val (.int p2), .val (.int p3), .val (.long q4), .second, .val (.int p5), .val (.int p6), .val (.int (Int32.ofNat nn)), .val (.int (Int32.ofNat f)), .val (.int (Int32.ofNat t)), .val (.int d), .val (.int e_), .val (.ref o), .val (.int gt), .val (.int (0 : Int32))] [])) _
      refine XS.goto X31.here hx rfl (pc0 := 160) (pc' := 242) rfl (hb hby at_160) (by decide) (by decide) ?_
      show Steps p.tables e below (T31.setTop (mkF m 242 #[.val (.int p1), .val (.int p2), .val (.int p3), .val (.long q4), .second, .val (.int p5), .val (.int p6), .val (.int (Int32.ofNat nn)), .val (.int (Int32.ofNat f)), .val (.int (Int32.ofNat t)), .val (.int d), .val (.int e_), .val (.ref o), .val (.int gt), .val (.int (0 : Int32))] [])) _
      refine XS.iload X31.here hx rfl (hb hby at_242) rfl ?_
      show Steps p.tables e below (T31.setTop (mkF m 244 #[.val (.int p1), .val (.int p2), .val (.int p3), .val (.long q4), .second, .val (.int p5), .val (.int p6), .val (.int (Int32.ofNat nn)), .val (.int (Int32.ofNat f)), .val (.int (Int32.ofNat t)), .val (.int d), .val (.int e_), .val (.ref o), .val (.int gt), .val (.int (0 : Int32))] [(.int gt)])) _
      refine XS.iload X31.here hx rfl (hb hby at_244) rfl ?_
      show Steps p.tables e below (T31.setTop (mkF m 246 #[.val (.int p1), .val (.int p2), .val (.int p3), .val (.long q4), .second, .val (.int p5), .val (.int p6), .val (.int (Int32.ofNat nn)), .val (.int (Int32.ofNat f)), .val (.int (Int32.ofNat t)), .val (.int d), .val (.int e_), .val (.ref o), .val (.int gt), .val (.int (0 : Int32))] [(.int (0 : Int32)), (.int gt)])) _
      refine XS.icmpNo X31.here hx rfl (hb hby at_246) rfl (teq (hgt.trans (by unfold own_want; rw [if_neg c0]))).2 ?_
      show Steps p.tables e below (T31.setTop (mkF m 249 #[.val (.int p1), .val (.int p2), .val (.int p3), .val (.long q4), .second, .val (.int p5), .val (.int p6), .val (.int (Int32.ofNat nn)), .val (.int (Int32.ofNat f)), .val (.int (Int32.ofNat t)), .val (.int d), .val (.int e_), .val (.ref o), .val (.int gt), .val (.int (0 : Int32))] [])) _
      refine XS.iconst X31.here hx rfl (hb hby at_249) ?_
      show Steps p.tables e below (T31.setTop (mkF m 250 #[.val (.int p1), .val (.int p2), .val (.int p3), .val (.long q4), .second, .val (.int p5), .val (.int p6), .val (.int (Int32.ofNat nn)), .val (.int (Int32.ofNat f)), .val (.int (Int32.ofNat t)), .val (.int d), .val (.int e_), .val (.ref o), .val (.int gt), .val (.int (0 : Int32))] [(.int (1 : Int32))])) _
      refine XS.goto X31.here hx rfl (pc0 := 250) (pc' := 254) rfl (hb hby at_250) (by decide) (by decide) ?_
      show Steps p.tables e below (T31.setTop (mkF m 254 #[.val (.int p1), .val (.int p2), .val (.int p3), .val (.long q4), .second, .val (.int p5), .val (.int p6), .val (.int (Int32.ofNat nn)), .val (.int (Int32.ofNat f)), .val (.int (Int32.ofNat t)), .val (.int d), .val (.int e_), .val (.ref o), .val (.int gt), .val (.int (0 : Int32))] [(.int (1 : Int32))])) _
      exact retN X31 hx (t := .boolean) Bd.returns (by simp) (hb hby at_254) hr
    · show Q_law Z p1 p2 p3 q4 p5 p6 h0 n0 _ T31.heap _
      rw [e31]
      exact ⟨rfl, N31⟩
set_option maxRecDepth 65536 in
set_option maxHeartbeats 40000000 in
theorem comes_1 {Post : Tables → Env → Array Value → State → Outcome → State → Prop} (hpost : ∀ tb e args s v u, (limb_1_1.after args s (.returned v) u = true ∧ limb_1_2.after args s (.returned v) u = true ∧ True) → FrameEnd s (.returned v) u (Jvm.fieldLocs frame_1_writes args s ++ Jvm.arrayLocs frame_1_arrays args s ++ Jvm.staticLocs frame_1_statics s) 16 128 → Post tb e args s (.returned v) u) :
    ArmFor flags0 classFile x code maxLocals ret World_1 tables_1 room_1 Calls_1 rest_1 Pre_1 Post := by
  intro l hfl _ _ p e ha hc hk s m args below hf hA hF happ hP
  obtain ⟨hcalls, hrest, hpre⟩ := hP
  obtain ⟨-, -, -, hnamed, -, -, -, hat⟩ := (Spec.applies_iff hf).mp happ
  obtain ⟨hg, hn⟩ := and_e (Cond.before_iff.mp (show (Jvm.Cond.and given_1 narrow_1).before args s = true from hpre))
  obtain ⟨hcount, hg0⟩ := and_e hg
  obtain ⟨ga0, hg1⟩ := and_e hg0
  obtain ⟨ga1, hg2⟩ := and_e hg1
  obtain ⟨ga2, hg3⟩ := and_e hg2
  obtain ⟨ga3, hg4⟩ := and_e hg3
  obtain ⟨ga4, hg5⟩ := and_e hg4
  have ga5 := hg5
  obtain ⟨w0, w1, w2, w3, w4, w5, rfl⟩ : ∃ w0 w1 w2 w3 w4 w5 : Value, args = #[w0, w1, w2, w3, w4, w5] := by
    have hs : args.size = 6 := by simpa [Cond.value, given_1] using hcount
    obtain ⟨L⟩ := args
    match L, hs with
    | [w0, w1, w2, w3, w4, w5], _ => exact ⟨w0, w1, w2, w3, w4, w5, rfl⟩
  have hw := fun d (hd : d ∈ tables_1) => atoms_spec (ws := Jvm.Cond.code x code maxLocals ret :: tables_1) hat d (List.mem_cons_of_mem _ hd)
  obtain ⟨i0, ei0⟩ := is_v ga0
  obtain rfl : w0 = (.int i0) := Option.some.inj ei0
  obtain ⟨i1, ei1⟩ := is_v ga1
  obtain rfl : w1 = (.int i1) := Option.some.inj ei1
  obtain ⟨i2, ei2⟩ := is_v ga2
  obtain rfl : w2 = (.int i2) := Option.some.inj ei2
  obtain ⟨i3, ei3⟩ := isL_v ga3
  obtain rfl : w3 = (.long i3) := Option.some.inj ei3
  obtain ⟨i4, ei4⟩ := is_v ga4
  obtain rfl : w4 = (.int i4) := Option.some.inj ei4
  obtain ⟨i5, ei5⟩ := is_v ga5
  obtain rfl : w5 = (.int i5) := Option.some.inj ei5
  obtain ⟨n, o, h1, h2, h3, _, L, rfl, ⟨rfl, N⟩, hq⟩ := rm_law l s _ hw tables_1 i0 i1 i2 i3 i4 i5 s.heap s.heap.size (Nat.le_refl _) p e ha hc hk s m _ below hf ((Spec.applies_iff_loose hf).mp happ).1 ⟨rfl, State.Warmed39.refl s, rfl⟩ trivial
  refine ⟨n, _, h1, h2, h3, hpost _ _ _ _ _ _ ⟨Cond.after_iff.mpr rfl, Cond.after_iff.mpr (eq_i res_at (Term.int_eval (1)) rfl), trivial⟩ ⟨hq.1, hq.2.1, (hq.2.2.sift fun y hy => Or.inr (N y hy)).mono (by decide) (by decide)⟩⟩
theorem main_1_1 : Claimed_1_1 := comes_1 fun _ _ _ _ _ _ h hF => ⟨h.1, hF⟩
theorem main_1_2 : Claimed_1_2 := comes_1 fun _ _ _ _ _ _ h hF => ⟨h.2.1, hF⟩
end Jvm.Pilot.@@N@@
namespace Jvm.Pilot.@@N@@
open Jvm Jvm.ClassFile Sem Op Lib Jvm.Free Jvm.Stand Jvm.Pilot.@@N@@.Jvm.D
/-! MADE BY PROGRAM (witnessworld.py) out of the Statement's table words and the real class files: 11 classes; the members and pool entries that the words name. The judged class is class 1, her method 1. -/
namespace start1
open Jvm.ClassFile
def u (s : String) : CpInfo := .utf8 (stringToUtf16 s)
/-- a pool by its gaps: so many unusable entries, then the entry; so many at the end -/
def gap : Nat → List CpInfo → List CpInfo
  | 0, r => r
  | n + 1, r => .unusable :: gap n r
def poolList (es : List (Nat × CpInfo)) (last : Nat) : List CpInfo := es.foldr (fun e r => gap e.1 (e.2 :: r)) (gap last [])
def pool (es : List (Nat × CpInfo)) (last : Nat) : Array CpInfo := ⟨poolList es last⟩
def fileOf (pool : Array CpInfo) (this : Nat) (attrs : Array Attribute := #[]) (ms : Array MethodInfo := #[]) (fl : Nat := 33) (sup : Nat := 0) (ifs : Array Nat := #[]) (fds : Array FieldInfo := #[]) : ClassFile where
  minorVersion := 0
  majorVersion := 65
  constantPool := pool
  accessFlags := fl
  thisClass := this
  superClass := sup
  interfaces := ifs
  fields := fds
  methods := ms
  attributes := attrs
def plain (name : String) (sup : Option ClassId) : Class where
  name := name
  kind := .ordinary
  loader := none
  accessFlags := 33
  super := sup
  interfaces := #[]
  cf := none
  fields := #[]
  methods := #[]
  instanceTypes := #[]
  staticTypes := #[]
  resolved := #[]
  callSites := []
  init := .initialized
  statics := none
  mirror := none

def pool0 : Array CpInfo := pool [(5, u "<init>"), (0, u "()V"), (1, .class_ 10), (1, u "java/lang/Object")] 113

def k0c0 : Code := { maxStack := 0, maxLocals := 1, code := object_method_1_code, exceptionTable := #[], attributes := #[] }
def k0m0 : Method := { name := "<init>", desc := "()V", sig := { parameters := [], returnType := none }, accessFlags := 1, code := some k0c0 }
/-- java/lang/Object -/
def k0 : Class := { plain "java/lang/Object" none with
  accessFlags := 33
  interfaces := #[]
  cf := some (fileOf pool0 8 #[] #[{ accessFlags := 1, nameIndex := 5, descriptorIndex := 6, attributes := #[] }] 33 0 #[] #[])
  fields := #[]
  methods := #[k0m0]
  instanceTypes := #[]
  staticTypes := #[]
  resolved := Array.replicate 124 none
  statics := none }

def pool1 : Array CpInfo := pool [(2, .class_ 4), (1, u "java/lang/Object"), (0, u "<init>"), (0, u "()V"), (0, .class_ 8), (0, u "com/example/unknot/unknot/sp/MinTree"), (0, .methodref 7 10), (0, .nameAndType 5 11), (0, u "(I)V"), (0, .methodref 7 13), (0, .nameAndType 14 15), (0, u "set"), (0, u "(II)V"), (0, .methodref 7 17), (0, .nameAndType 18 19), (0, u "firstAtMost"), (0, u "(III)I"), (0, .methodref 21 22), (0, .class_ 23), (0, .nameAndType 24 25), (0, u "com/example/unknot/unknot/sp/MinTreeFirstAtMostPinLaw"), (0, u "hit"), (0, u "(IIIII)Z"), (2, u "law"), (0, u "(IIIJII)Z")] 3

def k1m0 : Method := { name := "<init>", desc := "()V", sig := { parameters := [], returnType := none }, accessFlags := 1, code := none }
def k1c1 : Code := { maxStack := 5, maxLocals := 15, code := code, exceptionTable := #[], attributes := #[] }
def k1m1 : Method := { name := "law", desc := "(IIIJII)Z", sig := { parameters := [.int, .int, .int, .long, .int, .int], returnType := some .boolean }, accessFlags := 9, code := some k1c1 }
def k1c2 : Code := { maxStack := 2, maxLocals := 5, code := method_3_code, exceptionTable := #[], attributes := #[] }
def k1m2 : Method := { name := "hit", desc := "(IIIII)Z", sig := { parameters := [.int, .int, .int, .int, .int], returnType := some .boolean }, accessFlags := 10, code := some k1c2 }
/-- com/example/unknot/unknot/sp/MinTreeFirstAtMostPinLaw -/
def k1 : Class := { plain "com/example/unknot/unknot/sp/MinTreeFirstAtMostPinLaw" (some 0) with
  accessFlags := 49
  interfaces := #[]
  cf := some (fileOf pool1 21 #[] #[{ accessFlags := 1, nameIndex := 5, descriptorIndex := 6, attributes := #[] }, { accessFlags := 9, nameIndex := 28, descriptorIndex := 29, attributes := #[] }, { accessFlags := 10, nameIndex := 24, descriptorIndex := 25, attributes := #[] }] 49 2 #[] #[])
  fields := #[]
  methods := #[k1m0, k1m1, k1m2]
  instanceTypes := #[]
  staticTypes := #[]
  resolved := Array.replicate 33 none
  statics := none }

def pool2 : Array CpInfo := pool [(3, .methodref 4 5), (0, .class_ 6), (0, .nameAndType 7 8), (0, u "java/lang/Object"), (0, u "<init>"), (0, u "()V"), (0, .fieldref 10 11), (0, .class_ 12), (0, .nameAndType 13 14), (0, u "com/example/unknot/unknot/sp/MinTree"), (0, u "leaves"), (0, u "I"), (0, .fieldref 10 16), (0, .nameAndType 17 18), (0, u "least"), (0, u "[I"), (0, .integer 2147483647), (0, .methodref 21 22), (0, .class_ 23), (0, .nameAndType 24 25), (0, u "java/util/Arrays"), (0, u "fill"), (0, u "([II)V"), (0, .methodref 27 28), (0, .class_ 29), (0, .nameAndType 30 31), (0, u "java/lang/Math"), (0, u "min"), (0, u "(II)I"), (0, u "NONE"), (1, u "(I)V"), (5, u "set"), (0, u "(II)V"), (0, u "firstAtMost"), (0, u "(III)I")] 2

def k2c0 : Code := { maxStack := 3, maxLocals := 3, code := prog_91_method_1_code, exceptionTable := #[], attributes := #[] }
def k2m0 : Method := { name := "<init>", desc := "(I)V", sig := { parameters := [.int], returnType := none }, accessFlags := 0, code := some k2c0 }
def k2c1 : Code := { maxStack := 6, maxLocals := 4, code := prog_91_method_3_code, exceptionTable := #[], attributes := #[] }
def k2m1 : Method := { name := "set", desc := "(II)V", sig := { parameters := [.int, .int], returnType := none }, accessFlags := 0, code := some k2c1 }
def k2c2 : Code := { maxStack := 3, maxLocals := 6, code := prog_91_method_5_code, exceptionTable := #[], attributes := #[] }
def k2m2 : Method := { name := "firstAtMost", desc := "(III)I", sig := { parameters := [.int, .int, .int], returnType := some .int }, accessFlags := 0, code := some k2c2 }
/-- com/example/unknot/unknot/sp/MinTree -/
def k2 : Class := { plain "com/example/unknot/unknot/sp/MinTree" (some 0) with
  accessFlags := 32
  interfaces := #[]
  cf := some (fileOf pool2 10 #[] #[{ accessFlags := 0, nameIndex := 7, descriptorIndex := 34, attributes := #[] }, { accessFlags := 0, nameIndex := 40, descriptorIndex := 41, attributes := #[] }, { accessFlags := 0, nameIndex := 42, descriptorIndex := 43, attributes := #[] }] 32 4 #[] #[{ accessFlags := 24, nameIndex := 32, descriptorIndex := 14, attributes := #[] }, { accessFlags := 18, nameIndex := 13, descriptorIndex := 14, attributes := #[] }, { accessFlags := 18, nameIndex := 17, descriptorIndex := 18, attributes := #[] }])
  fields := #[{ name := "NONE", type := .int, accessFlags := 24, slot := 0, constantValue := 0 }, { name := "leaves", type := .int, accessFlags := 18, slot := 0, constantValue := 0 }, { name := "least", type := (.array .int), accessFlags := 18, slot := 1, constantValue := 0 }]
  methods := #[k2m0, k2m1, k2m2]
  instanceTypes := #[.int, (.array .int)]
  staticTypes := #[.int]
  resolved := Array.replicate 46 none
  statics := none }

def pool3 : Array CpInfo := pool [(2, .class_ 4), (1, u "java/lang/Object"), (0, u "<init>"), (0, u "()V"), (7, .class_ 16), (1, u "java/util/Arrays"), (57, .class_ 76), (1, u "java/util/Arrays$NaturalOrder"), (36, .class_ 115), (1, u "java/util/Arrays$LegacyMergeSort"), (1, u "Z"), (257, .class_ 376), (0, u "java/util/Arrays$ArrayList"), (68, u "$assertionsDisabled"), (269, u "MIN_ARRAY_SORT_GRAN"), (0, u "I"), (2, u "INSERTIONSORT_THRESHOLD"), (120, u "fill"), (4, u "([II)V"), (129, .class_ 976), (0, u "java/util/Arrays$ArrayItr")] 52

def k3m0 : Method := { name := "<init>", desc := "()V", sig := { parameters := [], returnType := none }, accessFlags := 2, code := none }
def k3c1 : Code := { maxStack := 3, maxLocals := 4, code := jdk_65_method_103_code, exceptionTable := #[], attributes := #[] }
def k3m1 : Method := { name := "fill", desc := "([II)V", sig := { parameters := [(.array .int), .int], returnType := none }, accessFlags := 9, code := some k3c1 }
/-- java/util/Arrays -/
def k3 : Class := { plain "java/util/Arrays" (some 0) with
  accessFlags := 49
  interfaces := #[]
  cf := some (fileOf pool3 14 #[.nestMembers #[975, 375, 113, 74]] #[{ accessFlags := 2, nameIndex := 5, descriptorIndex := 6, attributes := #[] }, { accessFlags := 9, nameIndex := 840, descriptorIndex := 845, attributes := #[] }] 49 2 #[] #[{ accessFlags := 26, nameIndex := 715, descriptorIndex := 716, attributes := #[] }, { accessFlags := 26, nameIndex := 719, descriptorIndex := 716, attributes := #[] }, { accessFlags := 4120, nameIndex := 445, descriptorIndex := 117, attributes := #[] }])
  fields := #[{ name := "MIN_ARRAY_SORT_GRAN", type := .int, accessFlags := 26, slot := 0, constantValue := 0 }, { name := "INSERTIONSORT_THRESHOLD", type := .int, accessFlags := 26, slot := 1, constantValue := 0 }, { name := "$assertionsDisabled", type := .boolean, accessFlags := 4120, slot := 2, constantValue := 0 }]
  methods := #[k3m0, k3m1]
  instanceTypes := #[]
  staticTypes := #[.int, .int, .boolean]
  resolved := Array.replicate 1029 none
  statics := none }

def pool4 : Array CpInfo := pool [(1, .class_ 2), (0, u "java/lang/Math"), (1, .class_ 6), (1, u "java/lang/Object"), (0, u "<init>"), (0, u "()V"), (89, .class_ 100), (1, u "java/lang/Math$RandomNumberGeneratorHolder"), (71, u "negativeZeroFloatBits"), (0, u "J"), (2, u "negativeZeroDoubleBits"), (24, u "min"), (43, u "$assertionsDisabled"), (0, u "Z"), (88, u "(II)I"), (2, u "twoToTheDoubleScaleDown"), (0, u "D"), (4, u "twoToTheDoubleScaleUp"), (9, u "E"), (3, u "PI"), (2, u "TAU"), (2, u "DEGREES_TO_RADIANS"), (0, u "RADIANS_TO_DEGREES")] 94

def k4m0 : Method := { name := "<init>", desc := "()V", sig := { parameters := [], returnType := none }, accessFlags := 2, code := none }
def k4c1 : Code := { maxStack := 2, maxLocals := 2, code := jdk_29_method_69_code, exceptionTable := #[], attributes := #[] }
def k4m1 : Method := { name := "min", desc := "(II)I", sig := { parameters := [.int, .int], returnType := some .int }, accessFlags := 9, code := some k4c1 }
/-- java/lang/Math -/
def k4 : Class := { plain "java/lang/Math" (some 0) with
  accessFlags := 49
  interfaces := #[]
  cf := some (fileOf pool4 1 #[.nestMembers #[98]] #[{ accessFlags := 2, nameIndex := 7, descriptorIndex := 8, attributes := #[] }, { accessFlags := 9, nameIndex := 201, descriptorIndex := 335, attributes := #[] }] 49 4 #[] #[{ accessFlags := 25, nameIndex := 354, descriptorIndex := 339, attributes := #[] }, { accessFlags := 25, nameIndex := 358, descriptorIndex := 339, attributes := #[] }, { accessFlags := 25, nameIndex := 361, descriptorIndex := 339, attributes := #[] }, { accessFlags := 26, nameIndex := 364, descriptorIndex := 339, attributes := #[] }, { accessFlags := 26, nameIndex := 365, descriptorIndex := 339, attributes := #[] }, { accessFlags := 26, nameIndex := 172, descriptorIndex := 173, attributes := #[] }, { accessFlags := 26, nameIndex := 176, descriptorIndex := 173, attributes := #[] }, { accessFlags := 8, nameIndex := 344, descriptorIndex := 339, attributes := #[] }, { accessFlags := 8, nameIndex := 338, descriptorIndex := 339, attributes := #[] }, { accessFlags := 4120, nameIndex := 245, descriptorIndex := 246, attributes := #[] }])
  fields := #[{ name := "E", type := .double, accessFlags := 25, slot := 0, constantValue := 0 }, { name := "PI", type := .double, accessFlags := 25, slot := 1, constantValue := 0 }, { name := "TAU", type := .double, accessFlags := 25, slot := 2, constantValue := 0 }, { name := "DEGREES_TO_RADIANS", type := .double, accessFlags := 26, slot := 3, constantValue := 0 }, { name := "RADIANS_TO_DEGREES", type := .double, accessFlags := 26, slot := 4, constantValue := 0 }, { name := "negativeZeroFloatBits", type := .long, accessFlags := 26, slot := 5, constantValue := 0 }, { name := "negativeZeroDoubleBits", type := .long, accessFlags := 26, slot := 6, constantValue := 0 }, { name := "twoToTheDoubleScaleUp", type := .double, accessFlags := 8, slot := 7, constantValue := 0 }, { name := "twoToTheDoubleScaleDown", type := .double, accessFlags := 8, slot := 8, constantValue := 0 }, { name := "$assertionsDisabled", type := .boolean, accessFlags := 4120, slot := 9, constantValue := 0 }]
  methods := #[k4m0, k4m1]
  instanceTypes := #[]
  staticTypes := #[.double, .double, .double, .double, .double, .long, .long, .double, .double, .boolean]
  resolved := Array.replicate 460 none
  statics := none }

def pool5 : Array CpInfo := pool [(1, u "java/lang/Cloneable"), (0, .class_ 1), (0, u "java/lang/Object"), (0, .class_ 3)] 3

/-- java/lang/Cloneable -/
def k5 : Class := { plain "java/lang/Cloneable" (some 0) with
  accessFlags := 1537
  interfaces := #[]
  cf := some (fileOf pool5 2 #[] #[] 1537 4 #[] #[])
  fields := #[]
  methods := #[]
  instanceTypes := #[]
  staticTypes := #[]
  resolved := Array.replicate 8 none
  statics := none }

def pool6 : Array CpInfo := pool [(1, u "java/io/Serializable"), (0, .class_ 1), (0, u "java/lang/Object"), (0, .class_ 3)] 3

/-- java/io/Serializable -/
def k6 : Class := { plain "java/io/Serializable" (some 0) with
  accessFlags := 1537
  interfaces := #[]
  cf := some (fileOf pool6 2 #[] #[] 1537 4 #[] #[])
  fields := #[]
  methods := #[]
  instanceTypes := #[]
  staticTypes := #[]
  resolved := Array.replicate 8 none
  statics := none }

/-- the primitive byte -/
def k7 : Class := { plain "byte" none with kind := .primitive 'B', accessFlags := 0x411 }
/-- [B -/
def k8 : Class := { plain "[B" (some 0) with kind := .array 7 .byte, interfaces := #[5, 6], accessFlags := 1041 }

/-- the primitive int -/
def k9 : Class := { plain "int" none with kind := .primitive 'I', accessFlags := 0x411 }
/-- [I -/
def k10 : Class := { plain "[I" (some 0) with kind := .array 9 .int, interfaces := #[5, 6], accessFlags := 1041 }

def heap : Heap := #[]
def classes : Array Class := #[k0, k1, k2, k3, k4, k5, k6, k7, k8, k9, k10]
def interned : List (Array UInt16 × Addr) := []
def slotsUsed : Nat := 0
def theMethod : MethodId := ⟨1, 1⟩
def args0 : Array Value := #[.int 5, .int 6, .int 7, .long 8, .int 9, .int 2]
def aboutOver (below : List Frame) : State where
  vm := { classes := classes, interned := interned.toArray }
  heap := heap
  slotsUsed := slotsUsed
  threads := #[{ frames := .invoking theMethod args0 :: below }]
def below0 : List Frame := [.native { method := ⟨0, 0⟩, args := #[] }]
def about1 : State := aboutOver below0
def p0 : Program := .bare "" "" ""
def e0 : Env := launch0.env 0 0 0
theorem w_frames : about1.frames = Frame.invoking theMethod args0 :: below0 := rfl
set_option maxRecDepth 65536 in
theorem w_args : argsFit about1.vm theMethod args0 = true := by decide +kernel
set_option maxRecDepth 65536 in
theorem w_heap : heapFits about1 = true := by decide +kernel
set_option maxRecDepth 65536 in
theorem w_runnable : about1.curStatus? = some .runnable := by decide +kernel
set_option maxRecDepth 65536 in
theorem w_alone : about1.alone = true := by decide +kernel
set_option maxRecDepth 65536 in
theorem w_named : about1.methodNamed? x = some theMethod := by decide +kernel
set_option maxRecDepth 65536 in
theorem w_hears : about1.hears theMethod below0 = true := by decide +kernel
set_option maxRecDepth 65536 in
theorem w_ripe : about1.ripe theMethod args0 below0 = true := by decide +kernel
theorem w_running : about1.status = .running := rfl
set_option maxRecDepth 65536 in
theorem w_room : about1.hasRoom e0.platform room_1 = true :=
  launch0.hasRoom_least _ room_1 (by decide +kernel) (by decide +kernel) (by decide +kernel) (by decide +kernel) (by decide +kernel) (by decide +kernel)
theorem allAtoms_all (ts : List Jvm.Cond) (a : Array Jvm.Value) (st : Jvm.State) : (allAtoms ts).before a st = ts.all (fun c => c.before a st) := by
  induction ts with
  | nil => rfl
  | cons c t ih =>
    show (Jvm.Cond.and c (allAtoms t)).before a st = _
    rw [Jvm.Cond.before_and, ih, List.all_cons]
def words1 : List Jvm.Cond := Jvm.Cond.code x code maxLocals ret :: tables_1
/-- a 'code' word, met by the world's own term for the bytes: nothing is compared byte by byte -/
theorem code_word {y : MethodName} {bytes : ByteArray} {mx : Nat} {rt : Option FieldType} {a : Array Value} {s : State} {m : MethodId} {meth : Method} {c : Code} (h1 : s.methodNamed? y = some m) (h2 : s.vm.method? m = some meth) (h3 : meth.code = some c) (h4 : c.code = bytes)
    (h5 : (c.maxLocals == mx && c.exceptionTable.isEmpty && decide (c.maxStack ≤ mostOperands) && decide (meth.sig.returnType = rt) && !meth.locks && decide (parseMethodDescriptor y.desc = some meth.sig)) = true) : (Jvm.Cond.code y bytes mx rt).before a s = true := by
  simp only [Bool.and_eq_true, beq_iff_eq, Bool.not_eq_true', decide_eq_true_eq] at h5
  obtain ⟨⟨⟨⟨⟨g1, g2⟩, g3⟩, g4⟩, g5⟩, g6⟩ := h5
  simp [Cond.before, Cond.holds, Cond.value, h1, h2, h3, h4, g1, g2, g3, g4, g5, g6]
def isCode : Jvm.Cond → Bool
  | .code _ _ _ _ => true
  | _ => false
theorem all_split {L : List Jvm.Cond} {P : Jvm.Cond → Bool} (h1 : L.all (fun c => isCode c || P c) = true) (h2 : ∀ c ∈ L.filter isCode, P c = true) : L.all P = true := by
  refine List.all_eq_true.mpr fun c hc => ?_
  have h := List.all_eq_true.mp h1 c hc
  rcases Bool.eq_false_or_eq_true (isCode c) with hi | hi
  · exact h2 c (List.mem_filter.mpr ⟨hc, hi⟩)
  · simpa [hi] using h
set_option maxRecDepth 65536 in
theorem w_c0 : (Jvm.Cond.code x code maxLocals ret).before args0 about1 = true := code_word (m := ⟨1, 1⟩) (meth := k1m1) (c := k1c1) (by decide +kernel) rfl rfl rfl (by decide +kernel)
set_option maxRecDepth 65536 in
theorem w_c1 : (Jvm.Cond.code ({ cls := "com/example/unknot/unknot/sp/MinTree", name := "<init>", desc := "(I)V" } : Jvm.MethodName) prog_91_method_1_code (3 : Nat) (Option.none : Option Jvm.ClassFile.FieldType)).before args0 about1 = true := code_word (m := ⟨2, 0⟩) (meth := k2m0) (c := k2c0) (by decide +kernel) rfl rfl rfl (by decide +kernel)
set_option maxRecDepth 65536 in
theorem w_c2 : (Jvm.Cond.code ({ cls := "java/lang/Object", name := "<init>", desc := "()V" } : Jvm.MethodName) object_method_1_code (1 : Nat) (Option.none : Option Jvm.ClassFile.FieldType)).before args0 about1 = true := code_word (m := ⟨0, 0⟩) (meth := k0m0) (c := k0c0) (by decide +kernel) rfl rfl rfl (by decide +kernel)
set_option maxRecDepth 65536 in
theorem w_c3 : (Jvm.Cond.code ({ cls := "java/util/Arrays", name := "fill", desc := "([II)V" } : Jvm.MethodName) jdk_65_method_103_code (4 : Nat) (Option.none : Option Jvm.ClassFile.FieldType)).before args0 about1 = true := code_word (m := ⟨3, 1⟩) (meth := k3m1) (c := k3c1) (by decide +kernel) rfl rfl rfl (by decide +kernel)
set_option maxRecDepth 65536 in
theorem w_c4 : (Jvm.Cond.code ({ cls := "com/example/unknot/unknot/sp/MinTree", name := "set", desc := "(II)V" } : Jvm.MethodName) prog_91_method_3_code (4 : Nat) (Option.none : Option Jvm.ClassFile.FieldType)).before args0 about1 = true := code_word (m := ⟨2, 1⟩) (meth := k2m1) (c := k2c1) (by decide +kernel) rfl rfl rfl (by decide +kernel)
set_option maxRecDepth 65536 in
theorem w_c5 : (Jvm.Cond.code ({ cls := "java/lang/Math", name := "min", desc := "(II)I" } : Jvm.MethodName) jdk_29_method_69_code (2 : Nat) (Option.some Jvm.ClassFile.FieldType.int)).before args0 about1 = true := code_word (m := ⟨4, 1⟩) (meth := k4m1) (c := k4c1) (by decide +kernel) rfl rfl rfl (by decide +kernel)
set_option maxRecDepth 65536 in
theorem w_c6 : (Jvm.Cond.code ({ cls := "com/example/unknot/unknot/sp/MinTree", name := "firstAtMost", desc := "(III)I" } : Jvm.MethodName) prog_91_method_5_code (6 : Nat) (Option.some Jvm.ClassFile.FieldType.int)).before args0 about1 = true := code_word (m := ⟨2, 2⟩) (meth := k2m2) (c := k2c2) (by decide +kernel) rfl rfl rfl (by decide +kernel)
set_option maxRecDepth 65536 in
theorem w_c7 : (Jvm.Cond.code ({ cls := "com/example/unknot/unknot/sp/MinTreeFirstAtMostPinLaw", name := "hit", desc := "(IIIII)Z" } : Jvm.MethodName) method_3_code (5 : Nat) (Option.some Jvm.ClassFile.FieldType.boolean)).before args0 about1 = true := code_word (m := ⟨1, 2⟩) (meth := k1m2) (c := k1c2) (by decide +kernel) rfl rfl rfl (by decide +kernel)
def codes1 : List Jvm.Cond := [Jvm.Cond.code x code maxLocals ret, Jvm.Cond.code ({ cls := "com/example/unknot/unknot/sp/MinTree", name := "<init>", desc := "(I)V" } : Jvm.MethodName) prog_91_method_1_code (3 : Nat) (Option.none : Option Jvm.ClassFile.FieldType), Jvm.Cond.code ({ cls := "java/lang/Object", name := "<init>", desc := "()V" } : Jvm.MethodName) object_method_1_code (1 : Nat) (Option.none : Option Jvm.ClassFile.FieldType), Jvm.Cond.code ({ cls := "java/util/Arrays", name := "fill", desc := "([II)V" } : Jvm.MethodName) jdk_65_method_103_code (4 : Nat) (Option.none : Option Jvm.ClassFile.FieldType), Jvm.Cond.code ({ cls := "com/example/unknot/unknot/sp/MinTree", name := "set", desc := "(II)V" } : Jvm.MethodName) prog_91_method_3_code (4 : Nat) (Option.none : Option Jvm.ClassFile.FieldType), Jvm.Cond.code ({ cls := "java/lang/Math", name := "min", desc := "(II)I" } : Jvm.MethodName) jdk_29_method_69_code (2 : Nat) (Option.some Jvm.ClassFile.FieldType.int), Jvm.Cond.code ({ cls := "com/example/unknot/unknot/sp/MinTree", name := "firstAtMost", desc := "(III)I" } : Jvm.MethodName) prog_91_method_5_code (6 : Nat) (Option.some Jvm.ClassFile.FieldType.int), Jvm.Cond.code ({ cls := "com/example/unknot/unknot/sp/MinTreeFirstAtMostPinLaw", name := "hit", desc := "(IIIII)Z" } : Jvm.MethodName) method_3_code (5 : Nat) (Option.some Jvm.ClassFile.FieldType.boolean)]
set_option maxRecDepth 65536 in
theorem codes_eq : words1.filter isCode = codes1 := rfl
theorem w_codes : ∀ c ∈ words1.filter isCode, c.before args0 about1 = true := by
  rw [codes_eq]
  intro c hc
  simp only [codes1, List.mem_cons, List.not_mem_nil, or_false] at hc
  rcases hc with rfl | rfl | rfl | rfl | rfl | rfl | rfl | rfl
  · exact w_c0
  · exact w_c1
  · exact w_c2
  · exact w_c3
  · exact w_c4
  · exact w_c5
  · exact w_c6
  · exact w_c7
set_option maxRecDepth 65536 in
theorem w_t1 : (words1.take 24).all (fun c => isCode c || c.before args0 about1) = true := by decide +kernel
set_option maxRecDepth 65536 in
theorem w_t2 : (words1.drop 24).all (fun c => isCode c || c.before args0 about1) = true := by decide +kernel
theorem w_tables : (allAtoms (Jvm.Cond.code x code maxLocals ret :: tables_1)).before args0 about1 = true := by
  rw [allAtoms_all]
  show words1.all (fun c => c.before args0 about1) = true
  refine all_split ?_ w_codes
  rw [← List.take_append_drop 24 words1, List.all_append, w_t1, w_t2]
  rfl
set_option maxRecDepth 65536 in
theorem w_case : (Jvm.Cond.and given_1 narrow_1).before args0 about1 = true := by decide +kernel
theorem w_applies : (headSpec (Jvm.Cond.code x code maxLocals ret :: tables_1) room_1).applies x e0.platform about1 = true :=
  (Spec.applies_iff w_frames).mpr ⟨w_running, w_runnable, w_alone, w_named, w_hears, w_ripe, w_room, w_tables⟩
theorem atStart : AtStart classFile x code maxLocals ret World_1 tables_1 room_1 Calls_1 rest_1 Pre_1 launch0 p0 e0 about1 theMethod args0 below0 :=
  ⟨lists_1, trivial, launch0.admits_env _ _ _, launch0.least_env, fairChoices_fair.cas, fairChoices_fair.clock, w_frames, w_args, w_heap, w_applies, trivial, trivial, w_case⟩
end start1
theorem witness_1 : WitnessClaimed_1 := ⟨start1.p0, start1.e0, start1.about1, start1.theMethod, start1.args0, start1.below0, start1.atStart⟩
end Jvm.Pilot.@@N@@
